import JvmDerived
import JvmDerived.Pilot.@@N@@Statement
import JvmDerived.Pilot.@@N@@Code
set_option linter.unusedVariables false
set_option linter.unusedSimpArgs false
namespace Jvm.Pilot.@@N@@
open Jvm Jvm.ClassFile Sem Op Lib Jvm.Free Jvm.Stand Jvm.LawKit Jvm.RoadKit Bundle Jvm.Pilot.@@N@@.Jvm.D
section OwnKit
abbrev oU : Slot := .unset
abbrev oS : Slot := .second
abbrev oJ (x : Int64) : Slot := .val (.long x)
abbrev oD (x : UInt64) : Slot := .val (.double x)
variable {p : Program} {l : Launch} {e : Env} {R : Room} {s : State} {m : MethodId} {args : Array Value} {below : List Frame} {meth : Method} {c : Code} {T A B : State} {locs : List Loc} {cells slots : Nat} {G : State → Outcome → Prop} {Q : Option Value → Heap → List Loc → Prop} {C S : Nat} {pc : Nat} {Ls : Array Slot} {rest : List Value}
/-- from A the run ends, and what it leaves is G -/
def own_Go (p : Program) (e : Env) (below : List Frame) (G : State → Outcome → Prop) (A : State) : Prop := ∃ u o, Steps p.tables e below A u ∧ u.status = .running ∧ Ended u below o ∧ G u o
def own_Post (s : State) (Q : Option Value → Heap → List Loc → Prop) (C S : Nat) : State → Outcome → Prop := fun u o => ∃ v L, o = .returned v ∧ Q v u.heap L ∧ FrameEnd s o u L C S
def own_PostW (s : State) (Q : Option Value → Heap → List Loc → Prop) (C S : Nat) : State → Outcome → Prop := fun u o => ∃ v L, o = .returned v ∧ Q v u.heap L ∧ ReturnedEndW s o u L C S
theorem own_by (k : ∀ t, Steps p.tables e below B t → Steps p.tables e below A t) (h : own_Go p e below G B) : own_Go p e below G A := by
  obtain ⟨u, o, h1, h2⟩ := h
  exact ⟨u, o, k _ h1, h2⟩
theorem own_tr (k : Steps p.tables e below A B) (h : own_Go p e below G B) : own_Go p e below G A := by
  obtain ⟨u, o, h1, h2⟩ := h
  exact ⟨u, o, k.trans h1, h2⟩
theorem own_retI (X : Stand p l e R s m args below meth c T locs cells slots) (hlk : meth.locks = false) (hx : p.tables.exec = Jvm.exec) (hret : meth.sig.returnType = some .int) {z : Int32} (hd : decode c.code pc = .ok (.ireturn, 1)) (hq : Q (some (.int z)) T.heap locs) (hC : cells ≤ C) (hS : slots ≤ S) :
    own_Go p e below (own_Post s Q C S) (T.setTop (mkF m pc Ls (.int z :: rest))) := by
  obtain ⟨fs, hr, hrun, hended, hW, hsame⟩ := X.leave (v := some (.int z)) (fun h => by rw [hret] at h; cases h) hlk
  have hm' : T.vm.method? m = some meth := X.method'
  have hn : narrow .int (.int z) = .int z := rfl
  refine ⟨_, _, ?_, hrun, hended, _, _, rfl, hq, ⟨_, rfl⟩, hW, hsame.mono hC hS⟩
  show Steps p.tables e below (T.setTop { method := m, pc := pc, locals := Ls, stack := _ :: rest, locked := none }) _
  jvm_step X.here [X.here.top, hx, hd, hm', hret, hn]
  first | (intro acts; rw [hr _ acts rfl rfl rfl]) | rw [hr _ _ rfl rfl rfl]
  exact Steps.refl _
theorem own_retN (X : Stand p l e R s m args below meth c T locs cells slots) (hlk : meth.locks = false) (hx : p.tables.exec = Jvm.exec) {t : FieldType} (hret : meth.sig.returnType = some t) (ht : t = .boolean ∨ t = .byte ∨ t = .char ∨ t = .short) {z : Int32} (hd : decode c.code pc = .ok (.ireturn, 1)) (hq : Q (some (.int (nar t z))) T.heap locs) (hC : cells ≤ C) (hS : slots ≤ S) :
    own_Go p e below (own_Post s Q C S) (T.setTop (mkF m pc Ls (.int z :: rest))) := by
  obtain ⟨fs, hr, hrun, hended, hW, hsame⟩ := X.leave (v := some (.int (nar t z))) (fun h => by rw [hret] at h; cases h) hlk
  exact ⟨_, _, retN X hx hret ht hd hr, hrun, hended, _, _, rfl, hq, ⟨_, rfl⟩, hW, hsame.mono hC hS⟩
theorem own_retNW {vm₁ : Vm} (X : Stand p l e R (s.setVm vm₁) m args below meth c T locs cells slots) (hlk : meth.locks = false) (hx : p.tables.exec = Jvm.exec) {t : FieldType} (hret : meth.sig.returnType = some t) (ht : t = .boolean ∨ t = .byte ∨ t = .char ∨ t = .short) {z : Int32} (hd : decode c.code pc = .ok (.ireturn, 1)) {n : Nat} (hSi : s.Since vm₁ n) (hn : n ≤ T.heap.size) (hq : Q (some (.int (nar t z))) T.heap locs) (hC : cells ≤ C) (hS : slots ≤ S) :
    own_Go p e below (own_PostW s Q C S) (T.setTop (mkF m pc Ls (.int z :: rest))) := by
  obtain ⟨fs, hr, hrun, hended, h1, h2, h3, h4⟩ := X.leaveW hSi hn (v := some (.int (nar t z))) (fun h => by rw [hret] at h; cases h) hlk
  exact ⟨_, _, retN X hx hret ht hd hr, hrun, hended, _, _, rfl, hq, h1, h2, h3, h4.mono hC hS⟩
theorem own_retL (X : Stand p l e R s m args below meth c T locs cells slots) (hlk : meth.locks = false) (hx : p.tables.exec = Jvm.exec) (hret : meth.sig.returnType = some .long) {z : Int64} (hd : decode c.code pc = .ok (.lreturn, 1)) (hq : Q (some (.long z)) T.heap locs) (hC : cells ≤ C) (hS : slots ≤ S) :
    own_Go p e below (own_Post s Q C S) (T.setTop (mkF m pc Ls [.long z])) := by
  obtain ⟨fs, hr, hrun, hended, hW, hsame⟩ := X.leave (v := some (.long z)) (fun h => by rw [hret] at h; cases h) hlk
  exact ⟨_, _, retOut X hx (t := .long) (i := .lreturn) hret rfl (Or.inr (Or.inl ⟨rfl, rfl, _, rfl⟩)) hd hr, hrun, hended, _, _, rfl, hq, ⟨_, rfl⟩, hW, hsame.mono hC hS⟩
theorem own_retD (X : Stand p l e R s m args below meth c T locs cells slots) (hlk : meth.locks = false) (hx : p.tables.exec = Jvm.exec) (hret : meth.sig.returnType = some .double) {z : UInt64} (hd : decode c.code pc = .ok (.dreturn, 1)) (hq : Q (some (.double z)) T.heap locs) (hC : cells ≤ C) (hS : slots ≤ S) :
    own_Go p e below (own_Post s Q C S) (T.setTop (mkF m pc Ls [.double z])) := by
  obtain ⟨fs, hr, hrun, hended, hW, hsame⟩ := X.leave (v := some (.double z)) (fun h => by rw [hret] at h; cases h) hlk
  exact ⟨_, _, retOut X hx (t := .double) (i := .dreturn) hret rfl (Or.inr (Or.inr (Or.inl ⟨rfl, rfl, _, rfl⟩))) hd hr, hrun, hended, _, _, rfl, hq, ⟨_, rfl⟩, hW, hsame.mono hC hS⟩
theorem own_retR (X : Stand p l e R s m args below meth c T locs cells slots) (hlk : meth.locks = false) (hx : p.tables.exec = Jvm.exec) {t : FieldType} (hret : meth.sig.returnType = some t) {w : Value} (ht : t.isReference = true) (hn : narrow t w = w) (hw : w.isRef = true) (hd : decode c.code pc = .ok (.areturn, 1)) (hq : Q (some w) T.heap locs) (hC : cells ≤ C) (hS : slots ≤ S) :
    own_Go p e below (own_Post s Q C S) (T.setTop (mkF m pc Ls (w :: rest))) := by
  obtain ⟨fs, hr, hrun, hended, hW, hsame⟩ := X.leave (v := some w) (fun h => by rw [hret] at h; cases h) hlk
  exact ⟨_, _, retOut X hx (t := t) (i := .areturn) hret hn (Or.inr (Or.inr (Or.inr (Or.inr ⟨rfl, ht, hw⟩)))) hd hr, hrun, hended, _, _, rfl, hq, ⟨_, rfl⟩, hW, hsame.mono hC hS⟩
theorem own_retV (X : Stand p l e R s m args below meth c T locs cells slots) (hlk : meth.locks = false) (hx : p.tables.exec = Jvm.exec) (hret : meth.sig.returnType = none) (hd : decode c.code pc = .ok (.return_, 1)) (hq : Q none T.heap locs) (hC : cells ≤ C) (hS : slots ≤ S) :
    own_Go p e below (own_Post s Q C S) (T.setTop (mkF m pc Ls [])) := by
  obtain ⟨fs, hr, hrun, hended, hW, hsame⟩ := X.leave (v := none) (fun _ => rfl) hlk
  exact ⟨_, _, X.returnOut hx hret hd hr, hrun, hended, _, _, rfl, hq, ⟨_, rfl⟩, hW, hsame.mono hC hS⟩
theorem own_nev {Z : State} {h : Heap} {a b : Addr} {C : String} {a0 : Array Value} {n : Nat} {k : ClassId} {ty : FieldType} {z : Int32} {vs : List Value} {dv : Value} (E : Exa Z h a C) (wi : (Jvm.Cond.instantiable C n).before a0 Z = true) (F : Arv Z h b k ty z vs dv) : a ≠ b := by
  obtain ⟨c, A, -⟩ := F
  exact ne_arr E wi A
theorem own_selp {args' : Array Value} {y : MethodName} {n : Nat} (hins : (Jvm.Cond.instantiable y.cls n).before args' s = true) (hpriv : (Jvm.Cond.privateMethod y).before args' s = true) (hinst : (Jvm.Cond.instanceMethod y).before args' s = true) (hy : y.cls ≠ "java/lang/invoke/MethodHandle" ∧ y.cls ≠ "java/lang/invoke/VarHandle") : (Jvm.Cond.selects y.cls y y).before args' s = true := by
  obtain ⟨c, k, hc, hk, -, hniab, -, -⟩ := Cond.instantiable_spec hins
  exact selects_self_of_private hc hk (Bool.or_eq_false_iff.mp hniab).1 (Cond.privateMethod_at hpriv) hinst hy
theorem own_callS (X : Stand p l e R s m args below meth c T locs cells slots) (hx : p.tables.exec = Jvm.exec) {Z : State} {a0 : Array Value} {h : Heap} (hZ : Z.Warmed39 s.vm) {own : String} {index : Nat} {y : MethodName} (hown : s.vm.findClass own = some m.cls) {bytes : ByteArray} {maxL : Nat} {ret : Option FieldType} {rm : Room} {as' : Array Value} {Q : Option Value → Heap → List Loc → Prop} (w1 : (Jvm.Cond.methodLink own index y).before a0 Z = true) (w2 : (Jvm.Cond.static y).before a0 Z = true) (w3 : (Jvm.Cond.initialized y.cls).before a0 Z = true) (w4 : (Jvm.Cond.code y bytes maxL ret).before a0 Z = true) (hy : y.cls ≠ "java/lang/invoke/MethodHandle" ∧ y.cls ≠ "java/lang/invoke/VarHandle")
    (hM : MetFree l y (head1 [Jvm.Cond.code y bytes maxL ret] rm) (fun a U => a = as' ∧ Z.Warmed39 U.vm ∧ U.heap = h) (fun _ _ _ _ _ => True) (fun _ U o U' => ∃ v L, o = .returned v ∧ Q v U'.heap L ∧ FrameEnd U o U' L rm.cells rm.slots)) (eT : T.heap = h) (W : Nat) (hf : rm.frames + 1 ≤ R.frames) (hl : W + (maxL + 11) + rm.locals ≤ R.locals) (hc : cells + rm.cells ≤ R.cells) (hs : slots + rm.slots ≤ R.slots) {g : JFrame} (hg : g.method = m) (hsize : g.locals.size = c.maxLocals) (argsL rest : List Value) (ha : argsL.toArray = as') (hlen : ∀ sig, parseMethodDescriptor y.desc = some sig → argsL.length = sig.parameters.length) (hstack : g.stack = argsL.reverse ++ rest) (hW : 2 * g.monitorRoom + (rest.map fun v => v.category).sum ≤ W) (hd : decode c.code g.pc = .ok (.invokestatic index, 3)) :
    ∃ (T' : State) (L : List Loc) (v : Option Value), Stand p l e R s m args below meth c T' (locs ++ L) (cells + rm.cells) (slots + rm.slots) ∧ Q v T'.heap L ∧ ∀ t, Steps p.tables e below (T'.setTop { g with pc := g.pc + 3, stack := v.toList ++ rest }) t → Steps p.tables e below (T.setTop g) t := by
  obtain ⟨v, _, ⟨T', L', k', n'⟩, -, X', ⟨L, hQ, h2, h3, h4⟩, st⟩ := Jvm.LawKit.callS X hx (y := y) hown (mvT hZ w1) (mvT hZ w2) (mvT hZ w3) (mvT hZ w4) hy (backOf (W := W) hM hZ w4 w3 hf hl) (g := g) hg hsize (argsL := argsL) (rest := rest) hlen hstack hW hd (fun _ _ => ⟨ha, eT, hc, hs⟩)
  dsimp only [Pt.U, Pt.locs, Pt.cells, Pt.slots] at X' h2 h3 h4 st hQ
  subst h2 h3 h4
  exact ⟨T', L, v, X', hQ, st⟩
theorem own_callI (X : Stand p l e R s m args below meth c T locs cells slots) (hx : p.tables.exec = Jvm.exec) {Z : State} {a0 : Array Value} {h : Heap} (hZ : Z.Warmed39 s.vm) {own : String} {index : Nat} {y : MethodName} (hy1 : y.name = "<init>") (hown : s.vm.findClass own = some m.cls) {bytes : ByteArray} {maxL : Nat} {rm : Room} {as' : Array Value} {Q : Option Value → Heap → List Loc → Prop} (w1 : (Jvm.Cond.methodLink own index y).before a0 Z = true) (w2 : (Jvm.Cond.instanceMethod y).before a0 Z = true) (w3 : (Jvm.Cond.initialized y.cls).before a0 Z = true) (w4 : (Jvm.Cond.code y bytes maxL none).before a0 Z = true) (hy : y.cls ≠ "java/lang/invoke/MethodHandle" ∧ y.cls ≠ "java/lang/invoke/VarHandle")
    (hM : MetFree l y (head1 [Jvm.Cond.code y bytes maxL none] rm) (fun a U => a = as' ∧ Z.Warmed39 U.vm ∧ U.heap = h) (fun _ _ _ _ _ => True) (fun _ U o U' => ∃ v L, o = .returned v ∧ Q v U'.heap L ∧ FrameEnd U o U' L rm.cells rm.slots)) (eT : T.heap = h) (W : Nat) (hf : rm.frames + 1 ≤ R.frames) (hl : W + (maxL + 11) + rm.locals ≤ R.locals) (hc : cells + rm.cells ≤ R.cells) (hs : slots + rm.slots ≤ R.slots) {g : JFrame} (hg : g.method = m) (hsize : g.locals.size = c.maxLocals) (a : Addr) (argsL rest : List Value) (ha : (.ref a :: argsL).toArray = as') (hlen : ∀ sig, parseMethodDescriptor y.desc = some sig → argsL.length = sig.parameters.length) (hstack : g.stack = argsL.reverse ++ .ref a :: rest) (hW : 2 * g.monitorRoom + (rest.map fun v => v.category).sum ≤ W) (hd : decode c.code g.pc = .ok (.invokespecial index, 3)) :
    ∃ (T' : State) (L : List Loc) (v : Option Value), Stand p l e R s m args below meth c T' (locs ++ L) (cells + rm.cells) (slots + rm.slots) ∧ Q v T'.heap L ∧ ∀ t, Steps p.tables e below (T'.setTop { g with pc := g.pc + 3, stack := v.toList ++ rest }) t → Steps p.tables e below (T.setTop g) t := by
  obtain ⟨v, _, ⟨T', L', k', n'⟩, -, X', ⟨L, hQ, h2, h3, h4⟩, st⟩ := X.specialBack hx (y := y) hy1 hown (mvT hZ w1) (mvT hZ w2) (mvT hZ w4) hy (backOf (W := W) hM hZ w4 w3 hf hl) (g := g) hg hsize (Steps.refl _) (a := a) (argsL := argsL) (rest := rest) hlen hstack hW hd (fun _ _ => ⟨ha, eT, hc, hs⟩)
  dsimp only [Pt.U, Pt.locs, Pt.cells, Pt.slots] at X' h2 h3 h4 st hQ
  subst h2 h3 h4
  exact ⟨T', L, v, X', hQ, fun t k => st.trans k⟩
theorem own_callP (X : Stand p l e R s m args below meth c T locs cells slots) (hx : p.tables.exec = Jvm.exec) {Z : State} {a0 : Array Value} {h : Heap} (hZ : Z.Warmed39 s.vm) {own C : String} {index n : Nat} {y : MethodName} (hown : s.vm.findClass own = some m.cls) {bytes : ByteArray} {maxL : Nat} {ret : Option FieldType} {rm : Room} {as' : Array Value} {Q : Option Value → Heap → List Loc → Prop} (w1 : (Jvm.Cond.methodLink own index y).before a0 Z = true) (w2 : (Jvm.Cond.instanceMethod y).before a0 Z = true) (w3 : (Jvm.Cond.initialized y.cls).before a0 Z = true) (w4 : (Jvm.Cond.code y bytes maxL ret).before a0 Z = true) (w5 : (Jvm.Cond.privateMethod y).before a0 Z = true) (w6 : (Jvm.Cond.instantiable y.cls n).before a0 Z = true) (hy : y.cls ≠ "java/lang/invoke/MethodHandle" ∧ y.cls ≠ "java/lang/invoke/VarHandle")
    (hM : MetFree l y (head1 [Jvm.Cond.code y bytes maxL ret] rm) (fun a U => a = as' ∧ Z.Warmed39 U.vm ∧ U.heap = h) (fun _ _ _ _ _ => True) (fun _ U o U' => ∃ v L, o = .returned v ∧ Q v U'.heap L ∧ FrameEnd U o U' L rm.cells rm.slots)) (eT : T.heap = h) (W : Nat) (hf : rm.frames + 1 ≤ R.frames) (hl : W + (maxL + 11) + rm.locals ≤ R.locals) (hc : cells + rm.cells ≤ R.cells) (hs : slots + rm.slots ≤ R.slots) {g : JFrame} (hg : g.method = m) (hsize : g.locals.size = c.maxLocals) (a : Addr) (E : Exa Z h a C) (argsL rest : List Value) (ha : (.ref a :: argsL).toArray = as') (hlen : ∀ sig, parseMethodDescriptor y.desc = some sig → argsL.length = sig.parameters.length) (hstack : g.stack = argsL.reverse ++ .ref a :: rest) (hW : 2 * g.monitorRoom + (rest.map fun v => v.category).sum ≤ W) (hd : decode c.code g.pc = .ok (.invokevirtual index, 3)) :
    ∃ (T' : State) (L : List Loc) (v : Option Value), Stand p l e R s m args below meth c T' (locs ++ L) (cells + rm.cells) (slots + rm.slots) ∧ Q v T'.heap L ∧ ∀ t, Steps p.tables e below (T'.setTop { g with pc := g.pc + 3, stack := v.toList ++ rest }) t → Steps p.tables e below (T.setTop g) t := by
  obtain ⟨cq, q1, q2⟩ := E.cell
  obtain ⟨v, _, ⟨T', L', k', n'⟩, -, X', ⟨L, hQ, h2, h3, h4⟩, st⟩ := X.privateBack hx (y := y) hown (mvT hZ w1) (mvT hZ w2) (own_selp (y := y) (mvT hZ w6) (mvP hZ w5) (mvT hZ w2) hy) (Cond.privateMethod_at (mvP hZ w5 (args := #[]))) (mvT hZ w4) hy (backOf (W := W) hM hZ w4 w3 hf hl) (g := g) hg hsize (Steps.refl _) (a := a) (by rw [eT]; exact q1) q2 (argsL := argsL) (rest := rest) hlen hstack hW hd (fun _ _ => ⟨ha, eT, hc, hs⟩)
  dsimp only [Pt.U, Pt.locs, Pt.cells, Pt.slots] at X' h2 h3 h4 st hQ
  subst h2 h3 h4
  exact ⟨T', L, v, X', hQ, fun t k => st.trans k⟩
theorem own_callV (X : Stand p l e R s m args below meth c T locs cells slots) (hx : p.tables.exec = Jvm.exec) {Z : State} {a0 : Array Value} {h : Heap} (hZ : Z.Warmed39 s.vm) {own C : String} {index : Nat} {y z : MethodName} (hown : s.vm.findClass own = some m.cls) {bytes : ByteArray} {maxL : Nat} {ret : Option FieldType} {rm : Room} {as' : Array Value} {Q : Option Value → Heap → List Loc → Prop} (w1 : (Jvm.Cond.methodLink own index y).before a0 Z = true) (w2 : (Jvm.Cond.declares y).before a0 Z = true) (hnf : NotFace s y) (w3 : (Jvm.Cond.selects C y z).before a0 Z = true) (w4 : (Jvm.Cond.instanceMethod z).before a0 Z = true) (w5 : (Jvm.Cond.initialized z.cls).before a0 Z = true) (w6 : (Jvm.Cond.code z bytes maxL ret).before a0 Z = true) (hy : y.cls ≠ "java/lang/invoke/MethodHandle" ∧ y.cls ≠ "java/lang/invoke/VarHandle")
    (hM : MetFree l z (head1 [Jvm.Cond.code z bytes maxL ret] rm) (fun a U => a = as' ∧ Z.Warmed39 U.vm ∧ U.heap = h) (fun _ _ _ _ _ => True) (fun _ U o U' => ∃ v L, o = .returned v ∧ Q v U'.heap L ∧ FrameEnd U o U' L rm.cells rm.slots)) (eT : T.heap = h) (W : Nat) (hf : rm.frames + 1 ≤ R.frames) (hl : W + (maxL + 11) + rm.locals ≤ R.locals) (hc : cells + rm.cells ≤ R.cells) (hs : slots + rm.slots ≤ R.slots) {g : JFrame} (hg : g.method = m) (hsize : g.locals.size = c.maxLocals) (a : Addr) (E : Exa Z h a C) (argsL rest : List Value) (ha : (.ref a :: argsL).toArray = as') (hlen : ∀ sig, parseMethodDescriptor y.desc = some sig → argsL.length = sig.parameters.length) (hstack : g.stack = argsL.reverse ++ .ref a :: rest) (hW : 2 * g.monitorRoom + (rest.map fun v => v.category).sum ≤ W) (hd : decode c.code g.pc = .ok (.invokevirtual index, 3)) :
    ∃ (T' : State) (L : List Loc) (v : Option Value), Stand p l e R s m args below meth c T' (locs ++ L) (cells + rm.cells) (slots + rm.slots) ∧ Q v T'.heap L ∧ ∀ t, Steps p.tables e below (T'.setTop { g with pc := g.pc + 3, stack := v.toList ++ rest }) t → Steps p.tables e below (T.setTop g) t := by
  obtain ⟨cq, kq, qa, qb, qc⟩ := isOf hZ eT E
  obtain ⟨v, _, ⟨T', L', k', n'⟩, -, X', ⟨L, hQ, h2, h3, h4⟩, st⟩ := X.virtualBack hx (y := y) (z := z) hown (mvT hZ w1) (mvT hZ w2) hnf (mvT hZ w3) (mvT hZ w4) hy (backOf (W := W) hM hZ w6 w5 hf hl) qa qc (g := g) hg hsize (Steps.refl _) (argsL := argsL) (rest := rest) hlen hstack hW hd (fun _ _ => ⟨ha, eT, hc, hs⟩)
  dsimp only [Pt.U, Pt.locs, Pt.cells, Pt.slots] at X' h2 h3 h4 st hQ
  subst h2 h3 h4
  exact ⟨T', L, v, X', hQ, fun t k => st.trans k⟩
theorem own_callF (X : Stand p l e R s m args below meth c T locs cells slots) (hx : p.tables.exec = Jvm.exec) {Z : State} {a0 : Array Value} {h : Heap} (hZ : Z.Warmed39 s.vm) {own C : String} {index count : Nat} {y z : MethodName} (hown : s.vm.findClass own = some m.cls) {bytes : ByteArray} {maxL : Nat} {ret : Option FieldType} {rm : Room} {as' : Array Value} {Q : Option Value → Heap → List Loc → Prop} (w1 : (Jvm.Cond.methodLink own index y).before a0 Z = true) (w2 : (Jvm.Cond.declares y).before a0 Z = true) (w3 : (Jvm.Cond.interfaceMethod y.cls y.cls y.name y.desc).before a0 Z = true) (w4 : (Jvm.Cond.selects C y z).before a0 Z = true) (w5 : (Jvm.Cond.instanceMethod z).before a0 Z = true) (w6 : (Jvm.Cond.publicMethod z).before a0 Z = true) (w7 : (Jvm.Cond.unhidden C y.name y.desc).before a0 Z = true) (w8 : (Jvm.Cond.castable C y.cls).before a0 Z = true) (w9 : (Jvm.Cond.initialized z.cls).before a0 Z = true) (w10 : (Jvm.Cond.code z bytes maxL ret).before a0 Z = true) (hy : y.cls ≠ "java/lang/invoke/MethodHandle" ∧ y.cls ≠ "java/lang/invoke/VarHandle")
    (hM : MetFree l z (head1 [Jvm.Cond.code z bytes maxL ret] rm) (fun a U => a = as' ∧ Z.Warmed39 U.vm ∧ U.heap = h) (fun _ _ _ _ _ => True) (fun _ U o U' => ∃ v L, o = .returned v ∧ Q v U'.heap L ∧ FrameEnd U o U' L rm.cells rm.slots)) (eT : T.heap = h) (W : Nat) (hf : rm.frames + 1 ≤ R.frames) (hl : W + (maxL + 11) + rm.locals ≤ R.locals) (hc : cells + rm.cells ≤ R.cells) (hs : slots + rm.slots ≤ R.slots) {g : JFrame} (hg : g.method = m) (hsize : g.locals.size = c.maxLocals) (a : Addr) (E : Exa Z h a C) (argsL rest : List Value) (ha : (.ref a :: argsL).toArray = as') (hlen : ∀ sig, parseMethodDescriptor y.desc = some sig → argsL.length = sig.parameters.length) (hstack : g.stack = argsL.reverse ++ .ref a :: rest) (hW : 2 * g.monitorRoom + (rest.map fun v => v.category).sum ≤ W) (hd : decode c.code g.pc = .ok (.invokeinterface index count, 5)) (hw3 : ((Jvm.Cond.interfaceMethod y.cls y.cls y.name y.desc).onTables && (Jvm.Cond.interfaceMethod y.cls y.cls y.name y.desc).keepsFace) = true := by first | rfl | simp [Cond.onTables, Cond.keepsFace, Cond.keeps, Cond.steady]) :
    ∃ (T' : State) (L : List Loc) (v : Option Value), Stand p l e R s m args below meth c T' (locs ++ L) (cells + rm.cells) (slots + rm.slots) ∧ Q v T'.heap L ∧ ∀ t, Steps p.tables e below (T'.setTop { g with pc := g.pc + 5, stack := v.toList ++ rest }) t → Steps p.tables e below (T.setTop g) t := by
  obtain ⟨cq, kq, qa, qb, qc⟩ := isOf hZ eT E
  obtain ⟨v, _, ⟨T', L', k', n'⟩, -, X', ⟨L, hQ, h2, h3, h4⟩, st⟩ := X.interfaceBack hx (xi := y) (y := z) hown (mvT hZ w1) (mvT hZ w2) (mvT hZ w3 hw3) (mvT hZ w4) (mvT hZ w5) (mvT hZ w6) (mvT hZ w7) (mvT hZ w8) hy (backOf (W := W) hM hZ w10 w9 hf hl) qa qb qc (g := g) hg hsize (Steps.refl _) (argsL := argsL) (rest := rest) hlen hstack hW hd (fun _ _ => ⟨ha, eT, hc, hs⟩)
  dsimp only [Pt.U, Pt.locs, Pt.cells, Pt.slots] at X' h2 h3 h4 st hQ
  subst h2 h3 h4
  exact ⟨T', L, v, X', hQ, fun t k => st.trans k⟩
theorem own_c1 {g g' : JFrame} {h : Heap} (h1 : ∃ T', Stand p l e R s m args below meth c T' locs cells slots ∧ T'.heap = h ∧ ∀ t, Steps p.tables e below (T'.setTop g') t → Steps p.tables e below (T.setTop g) t) (k : ∀ T', Stand p l e R s m args below meth c T' locs cells slots → T'.heap = h → own_Go p e below G (T'.setTop g')) : own_Go p e below G (T.setTop g) := by
  obtain ⟨T', X', e', st⟩ := h1
  exact own_by st (k T' X' e')
theorem own_c2 {g g' : JFrame} {h : Heap} {a : Addr} {sl : Nat} {v : Value} (h1 : ∃ T' h', Stand p l e R s m args below meth c T' (locs ++ [⟨a, sl⟩]) cells slots ∧ T'.heap = h' ∧ Wr h h' a sl v ∧ ∀ t, Steps p.tables e below (T'.setTop g') t → Steps p.tables e below (T.setTop g) t) (k : ∀ T' h', Stand p l e R s m args below meth c T' (locs ++ [⟨a, sl⟩]) cells slots → T'.heap = h' → Wr h h' a sl v → own_Go p e below G (T'.setTop g')) : own_Go p e below G (T.setTop g) := by
  obtain ⟨T', h', X', e', W, st⟩ := h1
  exact own_by st (k T' h' X' e' W)
theorem own_cc {g : JFrame} {c1 s1 : Nat} {Q : Option Value → Heap → List Loc → Prop} {f : Option Value → JFrame} (h1 : ∃ (T' : State) (L : List Loc) (v : Option Value), Stand p l e R s m args below meth c T' (locs ++ L) c1 s1 ∧ Q v T'.heap L ∧ ∀ t, Steps p.tables e below (T'.setTop (f v)) t → Steps p.tables e below (T.setTop g) t) (k : ∀ (T' : State) (L : List Loc) (v : Option Value), Stand p l e R s m args below meth c T' (locs ++ L) c1 s1 → Q v T'.heap L → own_Go p e below G (T'.setTop (f v))) : own_Go p e below G (T.setTop g) := by
  obtain ⟨T', L, v, X', hQ, st⟩ := h1
  exact own_by st (k T' L v X' hQ)
end OwnKit
abbrev c0_ : String := "com/example/tidebook/tidebook/book/PriceLevels"
abbrev c1_ : String := "java/util/ArrayList"
abbrev c2_ : String := "com/example/tidebook/tidebook/model/PriceLevel"
abbrev c3_ : String := "java/lang/Object"
abbrev c4_ : String := "(I)Ljava/lang/Object;"
abbrev c5_ : String := "[Ljava/lang/Object;"
abbrev c6_ : String := "java/util/AbstractList"
abbrev c7_ : String := "java/util/List"
abbrev c8_ : String := "(ILjava/util/List;)V"
abbrev c9_ : String := "()Ljava/util/List;"
abbrev c10_ : String := "(Ljava/lang/Object;)Z"
abbrev c11_ : String := "java/lang/Math"
abbrev c12_ : String := "(Ljava/lang/Object;[Ljava/lang/Object;I)V"
abbrev c13_ : String := "java/util/Objects"
abbrev c14_ : String := "java/lang/Long"
abbrev c15_ : String := "java/util/AbstractCollection"
abbrev c16_ : String := "EMPTY_ELEMENTDATA"
abbrev c17_ : String := "java/lang/Record"
abbrev c18_ : String := "jdk/internal/util/Preconditions"
abbrev c19_ : String := "(IILjava/util/function/BiFunction;)I"
abbrev c20_ : String := "com/example/tidebook/tidebook/book/PriceLevelsClearPinLaw"
theorem dE_ {P : Prop} (h : P := by decide) : P := h
theorem nB_ {n m : Nat} (h : n.ble m = true := by rfl) : n ≤ m := Nat.le_of_ble_eq_true h
abbrev oW_ (a0 : Array Value) (Z : State) : Prop := ∀ d ∈ tables_1, d.before a0 Z = true
abbrev sO_ := @Jvm.RoadKit.slotOf
abbrev lA0_ (x0 : Addr) (x1 : Int64) (x3 : Int64) : Array Slot := #[rv x0, oJ x1, oS, oJ x3, oS]
abbrev lA1_ (x0 : Addr) (x1 : Int64) (x3 : Int64) : Array Slot := #[rv x0, oJ x1, oS, oJ x3, oS, oU]
abbrev lA2_ (x0 : Addr) (x1 : Int64) (x3 : Int64) (x5 : Int32) : Array Slot := #[rv x0, oJ x1, oS, oJ x3, oS, iv x5]
abbrev lA3_ (x0 : Addr) (x1 : Int32) (x2 : Int64) (x4 : Int64) : Array Slot := #[rv x0, iv x1, oJ x2, oS, oJ x4, oS, oU]
abbrev lA4_ (x0 : Addr) (x1 : Int32) (x2 : Int64) (x4 : Int64) (x6 : Int32) : Array Slot := #[rv x0, iv x1, oJ x2, oS, oJ x4, oS, iv x6]
abbrev lA5_ (x0 : Int32) (x1 : Int64) (x3 : Int64) (x5 : Int64) (x7 : Int64) (x9 : Int64) (x11 : Int32) (x12 : Int64) (x14 : Int64) (x16 : Addr) : Array Slot := #[iv x0, oJ x1, oS, oJ x3, oS, oJ x5, oS, oJ x7, oS, oJ x9, oS, iv x11, oJ x12, oS, oJ x14, oS, rv x16, oU, oU, oU, oU, oU, oU, oU, oU, oU]
abbrev lA6_ (x0 : Int32) (x1 : Int64) (x3 : Int64) (x5 : Int64) (x7 : Int64) (x9 : Int64) (x11 : Int32) (x12 : Int64) (x14 : Int64) (x16 : Addr) (x17 : Addr) : Array Slot := #[iv x0, oJ x1, oS, oJ x3, oS, oJ x5, oS, oJ x7, oS, oJ x9, oS, iv x11, oJ x12, oS, oJ x14, oS, rv x16, rv x17, oU, oU, oU, oU, oU, oU, oU, oU]
abbrev lA7_ (x0 : Int32) (x1 : Int64) (x3 : Int64) (x5 : Int64) (x7 : Int64) (x9 : Int64) (x11 : Int32) (x12 : Int64) (x14 : Int64) (x16 : Addr) (x17 : Addr) (x18 : Int64) (x20 : Int64) (x22 : Int64) (x24 : Int64) : Array Slot := #[iv x0, oJ x1, oS, oJ x3, oS, oJ x5, oS, oJ x7, oS, oJ x9, oS, iv x11, oJ x12, oS, oJ x14, oS, rv x16, rv x17, oJ x18, oS, oJ x20, oS, oJ x22, oS, oJ x24, oS]
abbrev lA8_ (x0 : Int32) (x1 : Int64) (x3 : Int64) (x5 : Int64) (x7 : Int64) (x9 : Int64) (x11 : Int32) (x12 : Int64) (x14 : Int64) (x16 : Addr) (x17 : Addr) (x18 : Int64) : Array Slot := #[iv x0, oJ x1, oS, oJ x3, oS, oJ x5, oS, oJ x7, oS, oJ x9, oS, iv x11, oJ x12, oS, oJ x14, oS, rv x16, rv x17, oJ x18, oS, oU, oU, oU, oU, oU, oU]
abbrev lA9_ (x0 : Int32) (x1 : Int64) (x3 : Int64) (x5 : Int64) (x7 : Int64) (x9 : Int64) (x11 : Int32) (x12 : Int64) (x14 : Int64) (x16 : Addr) (x17 : Addr) (x18 : Int64) (x20 : Int64) : Array Slot := #[iv x0, oJ x1, oS, oJ x3, oS, oJ x5, oS, oJ x7, oS, oJ x9, oS, iv x11, oJ x12, oS, oJ x14, oS, rv x16, rv x17, oJ x18, oS, oJ x20, oS, oU, oU, oU, oU]
abbrev lA10_ (x0 : Int32) (x1 : Int64) (x3 : Int64) (x5 : Int64) (x7 : Int64) (x9 : Int64) (x11 : Int32) (x12 : Int64) (x14 : Int64) (x16 : Addr) (x17 : Addr) (x18 : Int64) (x20 : Int64) (x22 : Int64) : Array Slot := #[iv x0, oJ x1, oS, oJ x3, oS, oJ x5, oS, oJ x7, oS, oJ x9, oS, iv x11, oJ x12, oS, oJ x14, oS, rv x16, rv x17, oJ x18, oS, oJ x20, oS, oJ x22, oS, oU, oU]
abbrev lA11_ (x0 : Addr) (x1 : Int32) (x2 : Int64) : Array Slot := #[rv x0, iv x1, oJ x2, oS, oU, oU]
abbrev lA12_ (x0 : Addr) (x1 : Int32) (x2 : Int64) (x4 : Int32) : Array Slot := #[rv x0, iv x1, oJ x2, oS, iv x4, oU]
abbrev lA13_ (x0 : Addr) (x1 : Int32) (x2 : Int64) (x4 : Int32) (x5 : Int32) : Array Slot := #[rv x0, iv x1, oJ x2, oS, iv x4, iv x5]
abbrev lA14_ (x0 : Int32) (x1 : Int64) (x3 : Int64) (x5 : Int64) (x7 : Int64) (x9 : Int64) : Array Slot := #[iv x0, oJ x1, oS, oJ x3, oS, oJ x5, oS, oJ x7, oS, oJ x9, oS, oU, oU, oU, oU, oU, oU, oU, oU, oU, oU, oU, oU, oU, oU, oU]
abbrev lA15_ (x0 : Int32) (x1 : Int64) (x3 : Int64) (x5 : Int64) (x7 : Int64) (x9 : Int64) (x11 : Int32) : Array Slot := #[iv x0, oJ x1, oS, oJ x3, oS, oJ x5, oS, oJ x7, oS, oJ x9, oS, iv x11, oU, oU, oU, oU, oU, oU, oU, oU, oU, oU, oU, oU, oU, oU]
abbrev lA16_ (x0 : Int32) (x1 : Int64) (x3 : Int64) (x5 : Int64) (x7 : Int64) (x9 : Int64) (x11 : Int32) (x12 : Int64) : Array Slot := #[iv x0, oJ x1, oS, oJ x3, oS, oJ x5, oS, oJ x7, oS, oJ x9, oS, iv x11, oJ x12, oS, oU, oU, oU, oU, oU, oU, oU, oU, oU, oU, oU, oU]
abbrev lA17_ (x0 : Int32) (x1 : Int64) (x3 : Int64) (x5 : Int64) (x7 : Int64) (x9 : Int64) (x11 : Int32) (x12 : Int64) (x14 : Int64) : Array Slot := #[iv x0, oJ x1, oS, oJ x3, oS, oJ x5, oS, oJ x7, oS, oJ x9, oS, iv x11, oJ x12, oS, oJ x14, oS, oU, oU, oU, oU, oU, oU, oU, oU, oU, oU]
abbrev rM_ (a b c d : Nat) : Room := ⟨a, b, c, d⟩
abbrev dC0_ (n : Nat) (r : Instr × Nat) : Prop := decode jdk_35_method_42_code n = .ok r
abbrev dC1_ (n : Nat) (r : Instr × Nat) : Prop := decode jdk_29_method_65_code n = .ok r
abbrev dC2_ (n : Nat) (r : Instr × Nat) : Prop := decode jdk_29_method_66_code n = .ok r
abbrev dC3_ (n : Nat) (r : Instr × Nat) : Prop := decode jdk_29_method_70_code n = .ok r
abbrev dC4_ (n : Nat) (r : Instr × Nat) : Prop := decode prog_3_method_18_code n = .ok r
abbrev dC5_ (n : Nat) (r : Instr × Nat) : Prop := decode prog_3_method_2_code n = .ok r
abbrev dC6_ (n : Nat) (r : Instr × Nat) : Prop := decode prog_3_method_3_code n = .ok r
abbrev dC7_ (n : Nat) (r : Instr × Nat) : Prop := decode jdk_22_method_1_code n = .ok r
abbrev dC8_ (n : Nat) (r : Instr × Nat) : Prop := decode jdk_39_method_1_code n = .ok r
abbrev dC9_ (n : Nat) (r : Instr × Nat) : Prop := decode jdk_38_method_1_code n = .ok r
abbrev dC10_ (n : Nat) (r : Instr × Nat) : Prop := decode prog_3_method_7_code n = .ok r
abbrev dC11_ (n : Nat) (r : Instr × Nat) : Prop := decode prog_3_method_6_code n = .ok r
abbrev dC12_ (n : Nat) (r : Instr × Nat) : Prop := decode jdk_38_method_8_code n = .ok r
abbrev dC13_ (n : Nat) (r : Instr × Nat) : Prop := decode prog_3_method_14_code n = .ok r
abbrev dC14_ (n : Nat) (r : Instr × Nat) : Prop := decode prog_3_method_8_code n = .ok r
abbrev dC15_ (n : Nat) (r : Instr × Nat) : Prop := decode prog_3_method_4_code n = .ok r
abbrev dC16_ (n : Nat) (r : Instr × Nat) : Prop := decode jdk_30_method_1_code n = .ok r
abbrev dC17_ (n : Nat) (r : Instr × Nat) : Prop := decode prog_52_method_1_code n = .ok r
abbrev dC18_ (n : Nat) (r : Instr × Nat) : Prop := decode jdk_38_method_24_code n = .ok r
abbrev dC19_ (n : Nat) (r : Instr × Nat) : Prop := decode jdk_38_method_25_code n = .ok r
abbrev dC20_ (n : Nat) (r : Instr × Nat) : Prop := decode jdk_41_method_11_code n = .ok r
abbrev dC21_ (n : Nat) (r : Instr × Nat) : Prop := decode jdk_31_method_17_code n = .ok r
abbrev dC22_ (n : Nat) (r : Instr × Nat) : Prop := decode jdk_38_method_18_code n = .ok r
abbrev dC23_ (n : Nat) (r : Instr × Nat) : Prop := decode jdk_38_method_20_code n = .ok r
abbrev dC24_ (n : Nat) (r : Instr × Nat) : Prop := decode prog_52_method_5_code n = .ok r
abbrev dC25_ (n : Nat) (r : Instr × Nat) : Prop := decode prog_52_method_6_code n = .ok r
abbrev dC26_ (n : Nat) (r : Instr × Nat) : Prop := decode prog_3_method_13_code n = .ok r
abbrev dC27_ (n : Nat) (r : Instr × Nat) : Prop := decode prog_3_method_10_code n = .ok r
abbrev dC28_ (n : Nat) (r : Instr × Nat) : Prop := decode prog_3_method_1_code n = .ok r
abbrev dC29_ (n : Nat) (r : Instr × Nat) : Prop := decode prog_3_method_5_code n = .ok r
abbrev dC30_ (n : Nat) (r : Instr × Nat) : Prop := decode prog_3_method_15_code n = .ok r
abbrev dC31_ (n : Nat) (r : Instr × Nat) : Prop := decode prog_3_method_9_code n = .ok r
abbrev y0_ : MethodName := (⟨c14_, "compare", "(JJ)I"⟩ : MethodName)
abbrev y1_ : MethodName := (⟨c11_, "max", "(II)I"⟩ : MethodName)
abbrev y2_ : MethodName := (⟨c11_, "max", "(JJ)J"⟩ : MethodName)
abbrev y3_ : MethodName := (⟨c11_, "min", "(JJ)J"⟩ : MethodName)
abbrev y4_ : MethodName := (⟨c0_, "compare", "(JJ)I"⟩ : MethodName)
abbrev y5_ : MethodName := (⟨c0_, "bestPrice", "()J"⟩ : MethodName)
abbrev y6_ : MethodName := (⟨c0_, "bestSize", "()J"⟩ : MethodName)
abbrev y7_ : MethodName := (⟨c15_, "<init>", "()V"⟩ : MethodName)
abbrev y8_ : MethodName := (⟨c6_, "<init>", "()V"⟩ : MethodName)
abbrev y9_ : MethodName := (⟨c1_, "<init>", "(I)V"⟩ : MethodName)
abbrev y10_ : MethodName := (⟨c0_, "collect", c8_⟩ : MethodName)
abbrev y11_ : MethodName := (⟨c0_, "levels", c9_⟩ : MethodName)
abbrev y12_ : MethodName := (⟨c1_, "size", "()I"⟩ : MethodName)
abbrev y13_ : MethodName := (⟨c0_, "take", "(JJ)I"⟩ : MethodName)
abbrev y14_ : MethodName := (⟨c0_, "insert", "(IJJ)I"⟩ : MethodName)
abbrev y15_ : MethodName := (⟨c0_, "set", "(JJ)V"⟩ : MethodName)
abbrev y16_ : MethodName := (⟨c17_, "<init>", "()V"⟩ : MethodName)
abbrev y17_ : MethodName := (⟨c2_, "<init>", "(JJ)V"⟩ : MethodName)
abbrev y18_ : MethodName := (⟨c1_, "add", c12_⟩ : MethodName)
abbrev y19_ : MethodName := (⟨c1_, "add", c10_⟩ : MethodName)
abbrev y20_ : MethodName := (⟨c7_, "add", c10_⟩ : MethodName)
abbrev y21_ : MethodName := (⟨c18_, "checkIndex", c19_⟩ : MethodName)
abbrev y22_ : MethodName := (⟨c13_, "checkIndex", "(II)I"⟩ : MethodName)
abbrev y23_ : MethodName := (⟨c1_, "elementData", c4_⟩ : MethodName)
abbrev y24_ : MethodName := (⟨c1_, "get", c4_⟩ : MethodName)
abbrev y25_ : MethodName := (⟨c2_, "price", "()J"⟩ : MethodName)
abbrev y26_ : MethodName := (⟨c2_, "size", "()J"⟩ : MethodName)
abbrev y27_ : MethodName := (⟨c0_, "updateHeight", "(I)V"⟩ : MethodName)
abbrev y28_ : MethodName := (⟨c0_, "balance", "(I)I"⟩ : MethodName)
abbrev y29_ : MethodName := (⟨c7_, "size", "()I"⟩ : MethodName)
abbrev y30_ : MethodName := (⟨c7_, "get", c4_⟩ : MethodName)
abbrev y31_ : MethodName := (⟨c0_, "<init>", "(Z)V"⟩ : MethodName)
abbrev y32_ : MethodName := (⟨c0_, "clear", "()V"⟩ : MethodName)
abbrev y33_ : MethodName := (⟨c0_, "release", "(I)V"⟩ : MethodName)
abbrev y34_ : MethodName := (⟨c0_, "remove", "(IJ)I"⟩ : MethodName)
abbrev oZ : Value := .int (0 : Int32)
abbrev oY : Value := .long (0 : Int64)
theorem hW {Z : State} {a0 : Array Value} (hw : ∀ d ∈ tables_1, d.before a0 Z = true) (i : Nat) {d : Jvm.Cond} (h : tables_1[i]? = some d) : d.before a0 Z = true := hw _ (List.mem_of_getElem? h)
theorem sn0 {Z : State} {a0 : Array Value} (hw : oW_ a0 Z) : sO_ Z c1_ "elementData" c5_ ≠ sO_ Z c6_ "modCount" "I" := slot_ne (Or.inl (hW hw 111 rfl)) (Or.inl (hW hw 108 rfl)) dE_ (t := (.array (.object c3_))) (t' := .int) dE_ dE_
theorem sn1 {Z : State} {a0 : Array Value} (hw : oW_ a0 Z) : sO_ Z c1_ "size" "I" ≠ sO_ Z c6_ "modCount" "I" := slot_ne (Or.inl (hW hw 126 rfl)) (Or.inl (hW hw 108 rfl)) dE_ (t := .int) (t' := .int) dE_ dE_
theorem sn2 {Z : State} {a0 : Array Value} (hw : oW_ a0 Z) : sO_ Z c6_ "modCount" "I" ≠ sO_ Z c1_ "elementData" c5_ := slot_ne (Or.inl (hW hw 108 rfl)) (Or.inl (hW hw 111 rfl)) dE_ (t := .int) (t' := (.array (.object c3_))) dE_ dE_
theorem sn3 {Z : State} {a0 : Array Value} (hw : oW_ a0 Z) : sO_ Z c1_ "size" "I" ≠ sO_ Z c1_ "elementData" c5_ := slot_ne (Or.inl (hW hw 126 rfl)) (Or.inl (hW hw 111 rfl)) dE_ (t := .int) (t' := (.array (.object c3_))) dE_ dE_
theorem sn4 {Z : State} {a0 : Array Value} (hw : oW_ a0 Z) : sO_ Z c0_ "prices" "[J" ≠ sO_ Z c0_ "unused" "I" := slot_ne (Or.inl (hW hw 12 rfl)) (Or.inl (hW hw 28 rfl)) dE_ (t := (.array .long)) (t' := .int) dE_ dE_
theorem sn5 {Z : State} {a0 : Array Value} (hw : oW_ a0 Z) : sO_ Z c0_ "sizes" "[J" ≠ sO_ Z c0_ "unused" "I" := slot_ne (Or.inl (hW hw 14 rfl)) (Or.inl (hW hw 28 rfl)) dE_ (t := (.array .long)) (t' := .int) dE_ dE_
theorem sn6 {Z : State} {a0 : Array Value} (hw : oW_ a0 Z) : sO_ Z c0_ "left" "[I" ≠ sO_ Z c0_ "unused" "I" := slot_ne (Or.inl (hW hw 17 rfl)) (Or.inl (hW hw 28 rfl)) dE_ (t := (.array .int)) (t' := .int) dE_ dE_
theorem sn7 {Z : State} {a0 : Array Value} (hw : oW_ a0 Z) : sO_ Z c0_ "right" "[I" ≠ sO_ Z c0_ "unused" "I" := slot_ne (Or.inl (hW hw 19 rfl)) (Or.inl (hW hw 28 rfl)) dE_ (t := (.array .int)) (t' := .int) dE_ dE_
theorem sn8 {Z : State} {a0 : Array Value} (hw : oW_ a0 Z) : sO_ Z c0_ "heights" "[B" ≠ sO_ Z c0_ "unused" "I" := slot_ne (Or.inl (hW hw 22 rfl)) (Or.inl (hW hw 28 rfl)) dE_ (t := (.array .byte)) (t' := .int) dE_ dE_
theorem sn9 {Z : State} {a0 : Array Value} (hw : oW_ a0 Z) : sO_ Z c0_ "root" "I" ≠ sO_ Z c0_ "unused" "I" := slot_ne (Or.inl (hW hw 24 rfl)) (Or.inl (hW hw 28 rfl)) dE_ (t := .int) (t' := .int) dE_ dE_
theorem sn10 {Z : State} {a0 : Array Value} (hw : oW_ a0 Z) : sO_ Z c0_ "best" "I" ≠ sO_ Z c0_ "unused" "I" := slot_ne (Or.inl (hW hw 26 rfl)) (Or.inl (hW hw 28 rfl)) dE_ (t := .int) (t' := .int) dE_ dE_
theorem sn11 {Z : State} {a0 : Array Value} (hw : oW_ a0 Z) : sO_ Z c0_ "free" "I" ≠ sO_ Z c0_ "unused" "I" := slot_ne (Or.inl (hW hw 30 rfl)) (Or.inl (hW hw 28 rfl)) dE_ (t := .int) (t' := .int) dE_ dE_
theorem sn12 {Z : State} {a0 : Array Value} (hw : oW_ a0 Z) : sO_ Z c0_ "count" "I" ≠ sO_ Z c0_ "unused" "I" := slot_ne (Or.inl (hW hw 47 rfl)) (Or.inl (hW hw 28 rfl)) dE_ (t := .int) (t' := .int) dE_ dE_
theorem sn13 {Z : State} {a0 : Array Value} (hw : oW_ a0 Z) : sO_ Z c0_ "highestFirst" "Z" ≠ sO_ Z c0_ "unused" "I" := slot_ne (Or.inr (hW hw 32 rfl)) (Or.inl (hW hw 28 rfl)) dE_ (t := .boolean) (t' := .int) dE_ dE_
theorem sn14 {Z : State} {a0 : Array Value} (hw : oW_ a0 Z) : sO_ Z c0_ "prices" "[J" ≠ sO_ Z c0_ "count" "I" := slot_ne (Or.inl (hW hw 12 rfl)) (Or.inl (hW hw 47 rfl)) dE_ (t := (.array .long)) (t' := .int) dE_ dE_
theorem sn15 {Z : State} {a0 : Array Value} (hw : oW_ a0 Z) : sO_ Z c0_ "sizes" "[J" ≠ sO_ Z c0_ "count" "I" := slot_ne (Or.inl (hW hw 14 rfl)) (Or.inl (hW hw 47 rfl)) dE_ (t := (.array .long)) (t' := .int) dE_ dE_
theorem sn16 {Z : State} {a0 : Array Value} (hw : oW_ a0 Z) : sO_ Z c0_ "left" "[I" ≠ sO_ Z c0_ "count" "I" := slot_ne (Or.inl (hW hw 17 rfl)) (Or.inl (hW hw 47 rfl)) dE_ (t := (.array .int)) (t' := .int) dE_ dE_
theorem sn17 {Z : State} {a0 : Array Value} (hw : oW_ a0 Z) : sO_ Z c0_ "right" "[I" ≠ sO_ Z c0_ "count" "I" := slot_ne (Or.inl (hW hw 19 rfl)) (Or.inl (hW hw 47 rfl)) dE_ (t := (.array .int)) (t' := .int) dE_ dE_
theorem sn18 {Z : State} {a0 : Array Value} (hw : oW_ a0 Z) : sO_ Z c0_ "heights" "[B" ≠ sO_ Z c0_ "count" "I" := slot_ne (Or.inl (hW hw 22 rfl)) (Or.inl (hW hw 47 rfl)) dE_ (t := (.array .byte)) (t' := .int) dE_ dE_
theorem sn19 {Z : State} {a0 : Array Value} (hw : oW_ a0 Z) : sO_ Z c0_ "root" "I" ≠ sO_ Z c0_ "count" "I" := slot_ne (Or.inl (hW hw 24 rfl)) (Or.inl (hW hw 47 rfl)) dE_ (t := .int) (t' := .int) dE_ dE_
theorem sn20 {Z : State} {a0 : Array Value} (hw : oW_ a0 Z) : sO_ Z c0_ "best" "I" ≠ sO_ Z c0_ "count" "I" := slot_ne (Or.inl (hW hw 26 rfl)) (Or.inl (hW hw 47 rfl)) dE_ (t := .int) (t' := .int) dE_ dE_
theorem sn21 {Z : State} {a0 : Array Value} (hw : oW_ a0 Z) : sO_ Z c0_ "unused" "I" ≠ sO_ Z c0_ "count" "I" := slot_ne (Or.inl (hW hw 28 rfl)) (Or.inl (hW hw 47 rfl)) dE_ (t := .int) (t' := .int) dE_ dE_
theorem sn22 {Z : State} {a0 : Array Value} (hw : oW_ a0 Z) : sO_ Z c0_ "free" "I" ≠ sO_ Z c0_ "count" "I" := slot_ne (Or.inl (hW hw 30 rfl)) (Or.inl (hW hw 47 rfl)) dE_ (t := .int) (t' := .int) dE_ dE_
theorem sn23 {Z : State} {a0 : Array Value} (hw : oW_ a0 Z) : sO_ Z c0_ "highestFirst" "Z" ≠ sO_ Z c0_ "count" "I" := slot_ne (Or.inr (hW hw 32 rfl)) (Or.inl (hW hw 47 rfl)) dE_ (t := .boolean) (t' := .int) dE_ dE_
theorem sn24 {Z : State} {a0 : Array Value} (hw : oW_ a0 Z) : sO_ Z c0_ "prices" "[J" ≠ sO_ Z c0_ "root" "I" := slot_ne (Or.inl (hW hw 12 rfl)) (Or.inl (hW hw 24 rfl)) dE_ (t := (.array .long)) (t' := .int) dE_ dE_
theorem sn25 {Z : State} {a0 : Array Value} (hw : oW_ a0 Z) : sO_ Z c0_ "sizes" "[J" ≠ sO_ Z c0_ "root" "I" := slot_ne (Or.inl (hW hw 14 rfl)) (Or.inl (hW hw 24 rfl)) dE_ (t := (.array .long)) (t' := .int) dE_ dE_
theorem sn26 {Z : State} {a0 : Array Value} (hw : oW_ a0 Z) : sO_ Z c0_ "left" "[I" ≠ sO_ Z c0_ "root" "I" := slot_ne (Or.inl (hW hw 17 rfl)) (Or.inl (hW hw 24 rfl)) dE_ (t := (.array .int)) (t' := .int) dE_ dE_
theorem sn27 {Z : State} {a0 : Array Value} (hw : oW_ a0 Z) : sO_ Z c0_ "right" "[I" ≠ sO_ Z c0_ "root" "I" := slot_ne (Or.inl (hW hw 19 rfl)) (Or.inl (hW hw 24 rfl)) dE_ (t := (.array .int)) (t' := .int) dE_ dE_
theorem sn28 {Z : State} {a0 : Array Value} (hw : oW_ a0 Z) : sO_ Z c0_ "heights" "[B" ≠ sO_ Z c0_ "root" "I" := slot_ne (Or.inl (hW hw 22 rfl)) (Or.inl (hW hw 24 rfl)) dE_ (t := (.array .byte)) (t' := .int) dE_ dE_
theorem sn29 {Z : State} {a0 : Array Value} (hw : oW_ a0 Z) : sO_ Z c0_ "best" "I" ≠ sO_ Z c0_ "root" "I" := slot_ne (Or.inl (hW hw 26 rfl)) (Or.inl (hW hw 24 rfl)) dE_ (t := .int) (t' := .int) dE_ dE_
theorem sn30 {Z : State} {a0 : Array Value} (hw : oW_ a0 Z) : sO_ Z c0_ "unused" "I" ≠ sO_ Z c0_ "root" "I" := slot_ne (Or.inl (hW hw 28 rfl)) (Or.inl (hW hw 24 rfl)) dE_ (t := .int) (t' := .int) dE_ dE_
theorem sn31 {Z : State} {a0 : Array Value} (hw : oW_ a0 Z) : sO_ Z c0_ "free" "I" ≠ sO_ Z c0_ "root" "I" := slot_ne (Or.inl (hW hw 30 rfl)) (Or.inl (hW hw 24 rfl)) dE_ (t := .int) (t' := .int) dE_ dE_
theorem sn32 {Z : State} {a0 : Array Value} (hw : oW_ a0 Z) : sO_ Z c0_ "count" "I" ≠ sO_ Z c0_ "root" "I" := slot_ne (Or.inl (hW hw 47 rfl)) (Or.inl (hW hw 24 rfl)) dE_ (t := .int) (t' := .int) dE_ dE_
theorem sn33 {Z : State} {a0 : Array Value} (hw : oW_ a0 Z) : sO_ Z c0_ "highestFirst" "Z" ≠ sO_ Z c0_ "root" "I" := slot_ne (Or.inr (hW hw 32 rfl)) (Or.inl (hW hw 24 rfl)) dE_ (t := .boolean) (t' := .int) dE_ dE_
theorem sn34 {Z : State} {a0 : Array Value} (hw : oW_ a0 Z) : sO_ Z c0_ "prices" "[J" ≠ sO_ Z c0_ "best" "I" := slot_ne (Or.inl (hW hw 12 rfl)) (Or.inl (hW hw 26 rfl)) dE_ (t := (.array .long)) (t' := .int) dE_ dE_
theorem sn35 {Z : State} {a0 : Array Value} (hw : oW_ a0 Z) : sO_ Z c0_ "sizes" "[J" ≠ sO_ Z c0_ "best" "I" := slot_ne (Or.inl (hW hw 14 rfl)) (Or.inl (hW hw 26 rfl)) dE_ (t := (.array .long)) (t' := .int) dE_ dE_
theorem sn36 {Z : State} {a0 : Array Value} (hw : oW_ a0 Z) : sO_ Z c0_ "left" "[I" ≠ sO_ Z c0_ "best" "I" := slot_ne (Or.inl (hW hw 17 rfl)) (Or.inl (hW hw 26 rfl)) dE_ (t := (.array .int)) (t' := .int) dE_ dE_
theorem sn37 {Z : State} {a0 : Array Value} (hw : oW_ a0 Z) : sO_ Z c0_ "right" "[I" ≠ sO_ Z c0_ "best" "I" := slot_ne (Or.inl (hW hw 19 rfl)) (Or.inl (hW hw 26 rfl)) dE_ (t := (.array .int)) (t' := .int) dE_ dE_
theorem sn38 {Z : State} {a0 : Array Value} (hw : oW_ a0 Z) : sO_ Z c0_ "heights" "[B" ≠ sO_ Z c0_ "best" "I" := slot_ne (Or.inl (hW hw 22 rfl)) (Or.inl (hW hw 26 rfl)) dE_ (t := (.array .byte)) (t' := .int) dE_ dE_
theorem sn39 {Z : State} {a0 : Array Value} (hw : oW_ a0 Z) : sO_ Z c0_ "root" "I" ≠ sO_ Z c0_ "best" "I" := slot_ne (Or.inl (hW hw 24 rfl)) (Or.inl (hW hw 26 rfl)) dE_ (t := .int) (t' := .int) dE_ dE_
theorem sn40 {Z : State} {a0 : Array Value} (hw : oW_ a0 Z) : sO_ Z c0_ "unused" "I" ≠ sO_ Z c0_ "best" "I" := slot_ne (Or.inl (hW hw 28 rfl)) (Or.inl (hW hw 26 rfl)) dE_ (t := .int) (t' := .int) dE_ dE_
theorem sn41 {Z : State} {a0 : Array Value} (hw : oW_ a0 Z) : sO_ Z c0_ "free" "I" ≠ sO_ Z c0_ "best" "I" := slot_ne (Or.inl (hW hw 30 rfl)) (Or.inl (hW hw 26 rfl)) dE_ (t := .int) (t' := .int) dE_ dE_
theorem sn42 {Z : State} {a0 : Array Value} (hw : oW_ a0 Z) : sO_ Z c0_ "count" "I" ≠ sO_ Z c0_ "best" "I" := slot_ne (Or.inl (hW hw 47 rfl)) (Or.inl (hW hw 26 rfl)) dE_ (t := .int) (t' := .int) dE_ dE_
theorem sn43 {Z : State} {a0 : Array Value} (hw : oW_ a0 Z) : sO_ Z c0_ "highestFirst" "Z" ≠ sO_ Z c0_ "best" "I" := slot_ne (Or.inr (hW hw 32 rfl)) (Or.inl (hW hw 26 rfl)) dE_ (t := .boolean) (t' := .int) dE_ dE_
theorem sn44 {Z : State} {a0 : Array Value} (hw : oW_ a0 Z) : sO_ Z c2_ "size" "J" ≠ sO_ Z c2_ "price" "J" := slot_ne (Or.inr (hW hw 144 rfl)) (Or.inr (hW hw 142 rfl)) dE_ (t := .long) (t' := .long) dE_ dE_
theorem sn45 {Z : State} {a0 : Array Value} (hw : oW_ a0 Z) : sO_ Z c2_ "price" "J" ≠ sO_ Z c2_ "size" "J" := slot_ne (Or.inr (hW hw 142 rfl)) (Or.inr (hW hw 144 rfl)) dE_ (t := .long) (t' := .long) dE_ dE_
theorem sn46 {Z : State} {a0 : Array Value} (hw : oW_ a0 Z) : sO_ Z c6_ "modCount" "I" ≠ sO_ Z c1_ "size" "I" := slot_ne (Or.inl (hW hw 108 rfl)) (Or.inl (hW hw 126 rfl)) dE_ (t := .int) (t' := .int) dE_ dE_
theorem sn47 {Z : State} {a0 : Array Value} (hw : oW_ a0 Z) : sO_ Z c1_ "elementData" c5_ ≠ sO_ Z c1_ "size" "I" := slot_ne (Or.inl (hW hw 111 rfl)) (Or.inl (hW hw 126 rfl)) dE_ (t := (.array (.object c3_))) (t' := .int) dE_ dE_
theorem sn48 {Z : State} {a0 : Array Value} (hw : oW_ a0 Z) : sO_ Z c0_ "sizes" "[J" ≠ sO_ Z c0_ "prices" "[J" := slot_ne (Or.inl (hW hw 14 rfl)) (Or.inl (hW hw 12 rfl)) dE_ (t := (.array .long)) (t' := (.array .long)) dE_ dE_
theorem sn49 {Z : State} {a0 : Array Value} (hw : oW_ a0 Z) : sO_ Z c0_ "left" "[I" ≠ sO_ Z c0_ "prices" "[J" := slot_ne (Or.inl (hW hw 17 rfl)) (Or.inl (hW hw 12 rfl)) dE_ (t := (.array .int)) (t' := (.array .long)) dE_ dE_
theorem sn50 {Z : State} {a0 : Array Value} (hw : oW_ a0 Z) : sO_ Z c0_ "right" "[I" ≠ sO_ Z c0_ "prices" "[J" := slot_ne (Or.inl (hW hw 19 rfl)) (Or.inl (hW hw 12 rfl)) dE_ (t := (.array .int)) (t' := (.array .long)) dE_ dE_
theorem sn51 {Z : State} {a0 : Array Value} (hw : oW_ a0 Z) : sO_ Z c0_ "heights" "[B" ≠ sO_ Z c0_ "prices" "[J" := slot_ne (Or.inl (hW hw 22 rfl)) (Or.inl (hW hw 12 rfl)) dE_ (t := (.array .byte)) (t' := (.array .long)) dE_ dE_
theorem sn52 {Z : State} {a0 : Array Value} (hw : oW_ a0 Z) : sO_ Z c0_ "root" "I" ≠ sO_ Z c0_ "prices" "[J" := slot_ne (Or.inl (hW hw 24 rfl)) (Or.inl (hW hw 12 rfl)) dE_ (t := .int) (t' := (.array .long)) dE_ dE_
theorem sn53 {Z : State} {a0 : Array Value} (hw : oW_ a0 Z) : sO_ Z c0_ "best" "I" ≠ sO_ Z c0_ "prices" "[J" := slot_ne (Or.inl (hW hw 26 rfl)) (Or.inl (hW hw 12 rfl)) dE_ (t := .int) (t' := (.array .long)) dE_ dE_
theorem sn54 {Z : State} {a0 : Array Value} (hw : oW_ a0 Z) : sO_ Z c0_ "unused" "I" ≠ sO_ Z c0_ "prices" "[J" := slot_ne (Or.inl (hW hw 28 rfl)) (Or.inl (hW hw 12 rfl)) dE_ (t := .int) (t' := (.array .long)) dE_ dE_
theorem sn55 {Z : State} {a0 : Array Value} (hw : oW_ a0 Z) : sO_ Z c0_ "free" "I" ≠ sO_ Z c0_ "prices" "[J" := slot_ne (Or.inl (hW hw 30 rfl)) (Or.inl (hW hw 12 rfl)) dE_ (t := .int) (t' := (.array .long)) dE_ dE_
theorem sn56 {Z : State} {a0 : Array Value} (hw : oW_ a0 Z) : sO_ Z c0_ "highestFirst" "Z" ≠ sO_ Z c0_ "prices" "[J" := slot_ne (Or.inr (hW hw 32 rfl)) (Or.inl (hW hw 12 rfl)) dE_ (t := .boolean) (t' := (.array .long)) dE_ dE_
theorem sn57 {Z : State} {a0 : Array Value} (hw : oW_ a0 Z) : sO_ Z c0_ "count" "I" ≠ sO_ Z c0_ "prices" "[J" := slot_ne (Or.inl (hW hw 47 rfl)) (Or.inl (hW hw 12 rfl)) dE_ (t := .int) (t' := (.array .long)) dE_ dE_
theorem sn58 {Z : State} {a0 : Array Value} (hw : oW_ a0 Z) : sO_ Z c0_ "prices" "[J" ≠ sO_ Z c0_ "sizes" "[J" := slot_ne (Or.inl (hW hw 12 rfl)) (Or.inl (hW hw 14 rfl)) dE_ (t := (.array .long)) (t' := (.array .long)) dE_ dE_
theorem sn59 {Z : State} {a0 : Array Value} (hw : oW_ a0 Z) : sO_ Z c0_ "left" "[I" ≠ sO_ Z c0_ "sizes" "[J" := slot_ne (Or.inl (hW hw 17 rfl)) (Or.inl (hW hw 14 rfl)) dE_ (t := (.array .int)) (t' := (.array .long)) dE_ dE_
theorem sn60 {Z : State} {a0 : Array Value} (hw : oW_ a0 Z) : sO_ Z c0_ "right" "[I" ≠ sO_ Z c0_ "sizes" "[J" := slot_ne (Or.inl (hW hw 19 rfl)) (Or.inl (hW hw 14 rfl)) dE_ (t := (.array .int)) (t' := (.array .long)) dE_ dE_
theorem sn61 {Z : State} {a0 : Array Value} (hw : oW_ a0 Z) : sO_ Z c0_ "heights" "[B" ≠ sO_ Z c0_ "sizes" "[J" := slot_ne (Or.inl (hW hw 22 rfl)) (Or.inl (hW hw 14 rfl)) dE_ (t := (.array .byte)) (t' := (.array .long)) dE_ dE_
theorem sn62 {Z : State} {a0 : Array Value} (hw : oW_ a0 Z) : sO_ Z c0_ "root" "I" ≠ sO_ Z c0_ "sizes" "[J" := slot_ne (Or.inl (hW hw 24 rfl)) (Or.inl (hW hw 14 rfl)) dE_ (t := .int) (t' := (.array .long)) dE_ dE_
theorem sn63 {Z : State} {a0 : Array Value} (hw : oW_ a0 Z) : sO_ Z c0_ "best" "I" ≠ sO_ Z c0_ "sizes" "[J" := slot_ne (Or.inl (hW hw 26 rfl)) (Or.inl (hW hw 14 rfl)) dE_ (t := .int) (t' := (.array .long)) dE_ dE_
theorem sn64 {Z : State} {a0 : Array Value} (hw : oW_ a0 Z) : sO_ Z c0_ "unused" "I" ≠ sO_ Z c0_ "sizes" "[J" := slot_ne (Or.inl (hW hw 28 rfl)) (Or.inl (hW hw 14 rfl)) dE_ (t := .int) (t' := (.array .long)) dE_ dE_
theorem sn65 {Z : State} {a0 : Array Value} (hw : oW_ a0 Z) : sO_ Z c0_ "free" "I" ≠ sO_ Z c0_ "sizes" "[J" := slot_ne (Or.inl (hW hw 30 rfl)) (Or.inl (hW hw 14 rfl)) dE_ (t := .int) (t' := (.array .long)) dE_ dE_
theorem sn66 {Z : State} {a0 : Array Value} (hw : oW_ a0 Z) : sO_ Z c0_ "highestFirst" "Z" ≠ sO_ Z c0_ "sizes" "[J" := slot_ne (Or.inr (hW hw 32 rfl)) (Or.inl (hW hw 14 rfl)) dE_ (t := .boolean) (t' := (.array .long)) dE_ dE_
theorem sn67 {Z : State} {a0 : Array Value} (hw : oW_ a0 Z) : sO_ Z c0_ "count" "I" ≠ sO_ Z c0_ "sizes" "[J" := slot_ne (Or.inl (hW hw 47 rfl)) (Or.inl (hW hw 14 rfl)) dE_ (t := .int) (t' := (.array .long)) dE_ dE_
theorem sn68 {Z : State} {a0 : Array Value} (hw : oW_ a0 Z) : sO_ Z c0_ "prices" "[J" ≠ sO_ Z c0_ "left" "[I" := slot_ne (Or.inl (hW hw 12 rfl)) (Or.inl (hW hw 17 rfl)) dE_ (t := (.array .long)) (t' := (.array .int)) dE_ dE_
theorem sn69 {Z : State} {a0 : Array Value} (hw : oW_ a0 Z) : sO_ Z c0_ "sizes" "[J" ≠ sO_ Z c0_ "left" "[I" := slot_ne (Or.inl (hW hw 14 rfl)) (Or.inl (hW hw 17 rfl)) dE_ (t := (.array .long)) (t' := (.array .int)) dE_ dE_
theorem sn70 {Z : State} {a0 : Array Value} (hw : oW_ a0 Z) : sO_ Z c0_ "right" "[I" ≠ sO_ Z c0_ "left" "[I" := slot_ne (Or.inl (hW hw 19 rfl)) (Or.inl (hW hw 17 rfl)) dE_ (t := (.array .int)) (t' := (.array .int)) dE_ dE_
theorem sn71 {Z : State} {a0 : Array Value} (hw : oW_ a0 Z) : sO_ Z c0_ "heights" "[B" ≠ sO_ Z c0_ "left" "[I" := slot_ne (Or.inl (hW hw 22 rfl)) (Or.inl (hW hw 17 rfl)) dE_ (t := (.array .byte)) (t' := (.array .int)) dE_ dE_
theorem sn72 {Z : State} {a0 : Array Value} (hw : oW_ a0 Z) : sO_ Z c0_ "root" "I" ≠ sO_ Z c0_ "left" "[I" := slot_ne (Or.inl (hW hw 24 rfl)) (Or.inl (hW hw 17 rfl)) dE_ (t := .int) (t' := (.array .int)) dE_ dE_
theorem sn73 {Z : State} {a0 : Array Value} (hw : oW_ a0 Z) : sO_ Z c0_ "best" "I" ≠ sO_ Z c0_ "left" "[I" := slot_ne (Or.inl (hW hw 26 rfl)) (Or.inl (hW hw 17 rfl)) dE_ (t := .int) (t' := (.array .int)) dE_ dE_
theorem sn74 {Z : State} {a0 : Array Value} (hw : oW_ a0 Z) : sO_ Z c0_ "unused" "I" ≠ sO_ Z c0_ "left" "[I" := slot_ne (Or.inl (hW hw 28 rfl)) (Or.inl (hW hw 17 rfl)) dE_ (t := .int) (t' := (.array .int)) dE_ dE_
theorem sn75 {Z : State} {a0 : Array Value} (hw : oW_ a0 Z) : sO_ Z c0_ "free" "I" ≠ sO_ Z c0_ "left" "[I" := slot_ne (Or.inl (hW hw 30 rfl)) (Or.inl (hW hw 17 rfl)) dE_ (t := .int) (t' := (.array .int)) dE_ dE_
theorem sn76 {Z : State} {a0 : Array Value} (hw : oW_ a0 Z) : sO_ Z c0_ "highestFirst" "Z" ≠ sO_ Z c0_ "left" "[I" := slot_ne (Or.inr (hW hw 32 rfl)) (Or.inl (hW hw 17 rfl)) dE_ (t := .boolean) (t' := (.array .int)) dE_ dE_
theorem sn77 {Z : State} {a0 : Array Value} (hw : oW_ a0 Z) : sO_ Z c0_ "count" "I" ≠ sO_ Z c0_ "left" "[I" := slot_ne (Or.inl (hW hw 47 rfl)) (Or.inl (hW hw 17 rfl)) dE_ (t := .int) (t' := (.array .int)) dE_ dE_
theorem sn78 {Z : State} {a0 : Array Value} (hw : oW_ a0 Z) : sO_ Z c0_ "prices" "[J" ≠ sO_ Z c0_ "right" "[I" := slot_ne (Or.inl (hW hw 12 rfl)) (Or.inl (hW hw 19 rfl)) dE_ (t := (.array .long)) (t' := (.array .int)) dE_ dE_
theorem sn79 {Z : State} {a0 : Array Value} (hw : oW_ a0 Z) : sO_ Z c0_ "sizes" "[J" ≠ sO_ Z c0_ "right" "[I" := slot_ne (Or.inl (hW hw 14 rfl)) (Or.inl (hW hw 19 rfl)) dE_ (t := (.array .long)) (t' := (.array .int)) dE_ dE_
theorem sn80 {Z : State} {a0 : Array Value} (hw : oW_ a0 Z) : sO_ Z c0_ "left" "[I" ≠ sO_ Z c0_ "right" "[I" := slot_ne (Or.inl (hW hw 17 rfl)) (Or.inl (hW hw 19 rfl)) dE_ (t := (.array .int)) (t' := (.array .int)) dE_ dE_
theorem sn81 {Z : State} {a0 : Array Value} (hw : oW_ a0 Z) : sO_ Z c0_ "heights" "[B" ≠ sO_ Z c0_ "right" "[I" := slot_ne (Or.inl (hW hw 22 rfl)) (Or.inl (hW hw 19 rfl)) dE_ (t := (.array .byte)) (t' := (.array .int)) dE_ dE_
theorem sn82 {Z : State} {a0 : Array Value} (hw : oW_ a0 Z) : sO_ Z c0_ "root" "I" ≠ sO_ Z c0_ "right" "[I" := slot_ne (Or.inl (hW hw 24 rfl)) (Or.inl (hW hw 19 rfl)) dE_ (t := .int) (t' := (.array .int)) dE_ dE_
theorem sn83 {Z : State} {a0 : Array Value} (hw : oW_ a0 Z) : sO_ Z c0_ "best" "I" ≠ sO_ Z c0_ "right" "[I" := slot_ne (Or.inl (hW hw 26 rfl)) (Or.inl (hW hw 19 rfl)) dE_ (t := .int) (t' := (.array .int)) dE_ dE_
theorem sn84 {Z : State} {a0 : Array Value} (hw : oW_ a0 Z) : sO_ Z c0_ "unused" "I" ≠ sO_ Z c0_ "right" "[I" := slot_ne (Or.inl (hW hw 28 rfl)) (Or.inl (hW hw 19 rfl)) dE_ (t := .int) (t' := (.array .int)) dE_ dE_
theorem sn85 {Z : State} {a0 : Array Value} (hw : oW_ a0 Z) : sO_ Z c0_ "free" "I" ≠ sO_ Z c0_ "right" "[I" := slot_ne (Or.inl (hW hw 30 rfl)) (Or.inl (hW hw 19 rfl)) dE_ (t := .int) (t' := (.array .int)) dE_ dE_
theorem sn86 {Z : State} {a0 : Array Value} (hw : oW_ a0 Z) : sO_ Z c0_ "highestFirst" "Z" ≠ sO_ Z c0_ "right" "[I" := slot_ne (Or.inr (hW hw 32 rfl)) (Or.inl (hW hw 19 rfl)) dE_ (t := .boolean) (t' := (.array .int)) dE_ dE_
theorem sn87 {Z : State} {a0 : Array Value} (hw : oW_ a0 Z) : sO_ Z c0_ "count" "I" ≠ sO_ Z c0_ "right" "[I" := slot_ne (Or.inl (hW hw 47 rfl)) (Or.inl (hW hw 19 rfl)) dE_ (t := .int) (t' := (.array .int)) dE_ dE_
theorem sn88 {Z : State} {a0 : Array Value} (hw : oW_ a0 Z) : sO_ Z c0_ "prices" "[J" ≠ sO_ Z c0_ "heights" "[B" := slot_ne (Or.inl (hW hw 12 rfl)) (Or.inl (hW hw 22 rfl)) dE_ (t := (.array .long)) (t' := (.array .byte)) dE_ dE_
theorem sn89 {Z : State} {a0 : Array Value} (hw : oW_ a0 Z) : sO_ Z c0_ "sizes" "[J" ≠ sO_ Z c0_ "heights" "[B" := slot_ne (Or.inl (hW hw 14 rfl)) (Or.inl (hW hw 22 rfl)) dE_ (t := (.array .long)) (t' := (.array .byte)) dE_ dE_
theorem sn90 {Z : State} {a0 : Array Value} (hw : oW_ a0 Z) : sO_ Z c0_ "left" "[I" ≠ sO_ Z c0_ "heights" "[B" := slot_ne (Or.inl (hW hw 17 rfl)) (Or.inl (hW hw 22 rfl)) dE_ (t := (.array .int)) (t' := (.array .byte)) dE_ dE_
theorem sn91 {Z : State} {a0 : Array Value} (hw : oW_ a0 Z) : sO_ Z c0_ "right" "[I" ≠ sO_ Z c0_ "heights" "[B" := slot_ne (Or.inl (hW hw 19 rfl)) (Or.inl (hW hw 22 rfl)) dE_ (t := (.array .int)) (t' := (.array .byte)) dE_ dE_
theorem sn92 {Z : State} {a0 : Array Value} (hw : oW_ a0 Z) : sO_ Z c0_ "root" "I" ≠ sO_ Z c0_ "heights" "[B" := slot_ne (Or.inl (hW hw 24 rfl)) (Or.inl (hW hw 22 rfl)) dE_ (t := .int) (t' := (.array .byte)) dE_ dE_
theorem sn93 {Z : State} {a0 : Array Value} (hw : oW_ a0 Z) : sO_ Z c0_ "best" "I" ≠ sO_ Z c0_ "heights" "[B" := slot_ne (Or.inl (hW hw 26 rfl)) (Or.inl (hW hw 22 rfl)) dE_ (t := .int) (t' := (.array .byte)) dE_ dE_
theorem sn94 {Z : State} {a0 : Array Value} (hw : oW_ a0 Z) : sO_ Z c0_ "unused" "I" ≠ sO_ Z c0_ "heights" "[B" := slot_ne (Or.inl (hW hw 28 rfl)) (Or.inl (hW hw 22 rfl)) dE_ (t := .int) (t' := (.array .byte)) dE_ dE_
theorem sn95 {Z : State} {a0 : Array Value} (hw : oW_ a0 Z) : sO_ Z c0_ "free" "I" ≠ sO_ Z c0_ "heights" "[B" := slot_ne (Or.inl (hW hw 30 rfl)) (Or.inl (hW hw 22 rfl)) dE_ (t := .int) (t' := (.array .byte)) dE_ dE_
theorem sn96 {Z : State} {a0 : Array Value} (hw : oW_ a0 Z) : sO_ Z c0_ "highestFirst" "Z" ≠ sO_ Z c0_ "heights" "[B" := slot_ne (Or.inr (hW hw 32 rfl)) (Or.inl (hW hw 22 rfl)) dE_ (t := .boolean) (t' := (.array .byte)) dE_ dE_
theorem sn97 {Z : State} {a0 : Array Value} (hw : oW_ a0 Z) : sO_ Z c0_ "count" "I" ≠ sO_ Z c0_ "heights" "[B" := slot_ne (Or.inl (hW hw 47 rfl)) (Or.inl (hW hw 22 rfl)) dE_ (t := .int) (t' := (.array .byte)) dE_ dE_
theorem sn98 {Z : State} {a0 : Array Value} (hw : oW_ a0 Z) : sO_ Z c0_ "prices" "[J" ≠ sO_ Z c0_ "free" "I" := slot_ne (Or.inl (hW hw 12 rfl)) (Or.inl (hW hw 30 rfl)) dE_ (t := (.array .long)) (t' := .int) dE_ dE_
theorem sn99 {Z : State} {a0 : Array Value} (hw : oW_ a0 Z) : sO_ Z c0_ "sizes" "[J" ≠ sO_ Z c0_ "free" "I" := slot_ne (Or.inl (hW hw 14 rfl)) (Or.inl (hW hw 30 rfl)) dE_ (t := (.array .long)) (t' := .int) dE_ dE_
theorem sn100 {Z : State} {a0 : Array Value} (hw : oW_ a0 Z) : sO_ Z c0_ "left" "[I" ≠ sO_ Z c0_ "free" "I" := slot_ne (Or.inl (hW hw 17 rfl)) (Or.inl (hW hw 30 rfl)) dE_ (t := (.array .int)) (t' := .int) dE_ dE_
theorem sn101 {Z : State} {a0 : Array Value} (hw : oW_ a0 Z) : sO_ Z c0_ "right" "[I" ≠ sO_ Z c0_ "free" "I" := slot_ne (Or.inl (hW hw 19 rfl)) (Or.inl (hW hw 30 rfl)) dE_ (t := (.array .int)) (t' := .int) dE_ dE_
theorem sn102 {Z : State} {a0 : Array Value} (hw : oW_ a0 Z) : sO_ Z c0_ "heights" "[B" ≠ sO_ Z c0_ "free" "I" := slot_ne (Or.inl (hW hw 22 rfl)) (Or.inl (hW hw 30 rfl)) dE_ (t := (.array .byte)) (t' := .int) dE_ dE_
theorem sn103 {Z : State} {a0 : Array Value} (hw : oW_ a0 Z) : sO_ Z c0_ "root" "I" ≠ sO_ Z c0_ "free" "I" := slot_ne (Or.inl (hW hw 24 rfl)) (Or.inl (hW hw 30 rfl)) dE_ (t := .int) (t' := .int) dE_ dE_
theorem sn104 {Z : State} {a0 : Array Value} (hw : oW_ a0 Z) : sO_ Z c0_ "best" "I" ≠ sO_ Z c0_ "free" "I" := slot_ne (Or.inl (hW hw 26 rfl)) (Or.inl (hW hw 30 rfl)) dE_ (t := .int) (t' := .int) dE_ dE_
theorem sn105 {Z : State} {a0 : Array Value} (hw : oW_ a0 Z) : sO_ Z c0_ "unused" "I" ≠ sO_ Z c0_ "free" "I" := slot_ne (Or.inl (hW hw 28 rfl)) (Or.inl (hW hw 30 rfl)) dE_ (t := .int) (t' := .int) dE_ dE_
theorem sn106 {Z : State} {a0 : Array Value} (hw : oW_ a0 Z) : sO_ Z c0_ "highestFirst" "Z" ≠ sO_ Z c0_ "free" "I" := slot_ne (Or.inr (hW hw 32 rfl)) (Or.inl (hW hw 30 rfl)) dE_ (t := .boolean) (t' := .int) dE_ dE_
theorem sn107 {Z : State} {a0 : Array Value} (hw : oW_ a0 Z) : sO_ Z c0_ "count" "I" ≠ sO_ Z c0_ "free" "I" := slot_ne (Or.inl (hW hw 47 rfl)) (Or.inl (hW hw 30 rfl)) dE_ (t := .int) (t' := .int) dE_ dE_
theorem sn108 {Z : State} {a0 : Array Value} (hw : oW_ a0 Z) : sO_ Z c0_ "prices" "[J" ≠ sO_ Z c0_ "highestFirst" "Z" := slot_ne (Or.inl (hW hw 12 rfl)) (Or.inr (hW hw 32 rfl)) dE_ (t := (.array .long)) (t' := .boolean) dE_ dE_
theorem sn109 {Z : State} {a0 : Array Value} (hw : oW_ a0 Z) : sO_ Z c0_ "sizes" "[J" ≠ sO_ Z c0_ "highestFirst" "Z" := slot_ne (Or.inl (hW hw 14 rfl)) (Or.inr (hW hw 32 rfl)) dE_ (t := (.array .long)) (t' := .boolean) dE_ dE_
theorem sn110 {Z : State} {a0 : Array Value} (hw : oW_ a0 Z) : sO_ Z c0_ "left" "[I" ≠ sO_ Z c0_ "highestFirst" "Z" := slot_ne (Or.inl (hW hw 17 rfl)) (Or.inr (hW hw 32 rfl)) dE_ (t := (.array .int)) (t' := .boolean) dE_ dE_
theorem sn111 {Z : State} {a0 : Array Value} (hw : oW_ a0 Z) : sO_ Z c0_ "right" "[I" ≠ sO_ Z c0_ "highestFirst" "Z" := slot_ne (Or.inl (hW hw 19 rfl)) (Or.inr (hW hw 32 rfl)) dE_ (t := (.array .int)) (t' := .boolean) dE_ dE_
theorem sn112 {Z : State} {a0 : Array Value} (hw : oW_ a0 Z) : sO_ Z c0_ "heights" "[B" ≠ sO_ Z c0_ "highestFirst" "Z" := slot_ne (Or.inl (hW hw 22 rfl)) (Or.inr (hW hw 32 rfl)) dE_ (t := (.array .byte)) (t' := .boolean) dE_ dE_
theorem sn113 {Z : State} {a0 : Array Value} (hw : oW_ a0 Z) : sO_ Z c0_ "root" "I" ≠ sO_ Z c0_ "highestFirst" "Z" := slot_ne (Or.inl (hW hw 24 rfl)) (Or.inr (hW hw 32 rfl)) dE_ (t := .int) (t' := .boolean) dE_ dE_
theorem sn114 {Z : State} {a0 : Array Value} (hw : oW_ a0 Z) : sO_ Z c0_ "best" "I" ≠ sO_ Z c0_ "highestFirst" "Z" := slot_ne (Or.inl (hW hw 26 rfl)) (Or.inr (hW hw 32 rfl)) dE_ (t := .int) (t' := .boolean) dE_ dE_
theorem sn115 {Z : State} {a0 : Array Value} (hw : oW_ a0 Z) : sO_ Z c0_ "unused" "I" ≠ sO_ Z c0_ "highestFirst" "Z" := slot_ne (Or.inl (hW hw 28 rfl)) (Or.inr (hW hw 32 rfl)) dE_ (t := .int) (t' := .boolean) dE_ dE_
theorem sn116 {Z : State} {a0 : Array Value} (hw : oW_ a0 Z) : sO_ Z c0_ "free" "I" ≠ sO_ Z c0_ "highestFirst" "Z" := slot_ne (Or.inl (hW hw 30 rfl)) (Or.inr (hW hw 32 rfl)) dE_ (t := .int) (t' := .boolean) dE_ dE_
theorem sn117 {Z : State} {a0 : Array Value} (hw : oW_ a0 Z) : sO_ Z c0_ "count" "I" ≠ sO_ Z c0_ "highestFirst" "Z" := slot_ne (Or.inl (hW hw 47 rfl)) (Or.inr (hW hw 32 rfl)) dE_ (t := .int) (t' := .boolean) dE_ dE_
def fcmp (q0 q1 : Int64) : Int32 := (if q0 < q1 then (-1 : Int32) else (if q0 = q1 then (0 : Int32) else (1 : Int32)))
theorem d7_0 : dC0_ 0 (.lload_n 0, 1) := by decide +kernel
theorem d7_1 : dC0_ 1 (.lload_n 2, 1) := by decide +kernel
theorem d7_2 : dC0_ 2 (.lcmp, 1) := by decide +kernel
theorem d7_3 : dC0_ 3 (.ifCond .ge 7, 3) := by decide +kernel
theorem d7_6 : dC0_ 6 (.iconst (-1), 1) := by decide +kernel
theorem d7_7 : dC0_ 7 (.goto 14, 3) := by decide +kernel
theorem d7_10 : dC0_ 10 (.lload_n 0, 1) := by decide +kernel
theorem d7_11 : dC0_ 11 (.lload_n 2, 1) := by decide +kernel
theorem d7_12 : dC0_ 12 (.lcmp, 1) := by decide +kernel
theorem d7_13 : dC0_ 13 (.ifCond .ne 7, 3) := by decide +kernel
theorem d7_16 : dC0_ 16 (.iconst 0, 1) := by decide +kernel
theorem d7_17 : dC0_ 17 (.goto 4, 3) := by decide +kernel
theorem d7_20 : dC0_ 20 (.iconst 1, 1) := by decide +kernel
theorem d7_21 : dC0_ 21 (.ireturn, 1) := by decide +kernel
theorem pn_7 : plainName "java/lang/Long" = true := by first | (simp [plainName, overriddenIn]; done) | decide +kernel
theorem ef_7 (m : MethodId) (x0 x1 : Int64) : entryFrame m #[(.long x0), (.long x1)] 4 = mkF m 0 #[oJ x0, oS, oJ x1, oS] [] := by first | (simp [entryFrame, mkF, argsToLocals, Value.category]; done) | rfl
def Q7 (Z : State) (q0 q1 : Int64) (h0 : Heap) (n0 : Nat) (v : Option Value) (h : Heap) (L : List Loc) : Prop := v = some (.int (fcmp q0 q1)) ∧ Fr n0 L ∧ h = h0
set_option maxRecDepth 65536 in
set_option maxHeartbeats 40000000 in
theorem rm7 (l : Launch) (Z : State) (a0 : Array Value) (hw : oW_ a0 Z) (ws : List Jvm.Cond) (q0 q1 : Int64) (h0 : Heap) (n0 : Nat) (Z0 : n0 ≤ h0.size) :
    MetFree l y0_ (head1 (Jvm.Cond.code y0_ jdk_35_method_42_code 4 (some .int) :: ws) (rM_ 0 0 0 0)) (fun a U => a = #[(.long q0), (.long q1)] ∧ Z.Warmed39 U.vm ∧ U.heap = h0) (fun _ _ _ _ _ => True) (fun _ U o U' => ∃ v L, o = .returned v ∧ Q7 Z q0 q1 h0 n0 v U'.heap L ∧ FrameEnd U o U' L (rM_ 0 0 0 0).cells (rM_ 0 0 0 0).slots) := by
  refine MetFree.of_bodySF (plainFor_of_name pn_7) hisR ?_
  intro p e s m args below meth c s₁ Bd hml0 hP hK
  obtain ⟨rfl, hZ, hh⟩ := hP
  have hx := Bd.exec
  have hby := Bd.bytes
  have hml : c.maxLocals = 4 := hml0
  have hown : s.vm.findClass c14_ = some m.cls := findClass_of_methodNamed Bd.named
  have hnm := (name_of_methodNamed Bd.named Bd.method).1
  have X0 : Stand p l e (rM_ 0 0 0 0) s m #[(.long q0), (.long q1)] below meth c s₁ [] 0 0 := Stand.of_body Bd
  have e0 : s₁.heap = h0 := by rw [← hh, Bd.state]; rfl
  have N0 := Fr.nil n0
  change own_Go p e below (own_Post s (Q7 Z q0 q1 h0 n0) (rM_ 0 0 0 0).cells (rM_ 0 0 0 0).slots) (s₁.setTop (entryFrame m #[(.long q0), (.long q1)] 4))
  refine own_by (fun t k => castTop (ef_7 m q0 q1) k) ?_
  show own_Go p e below _ (s₁.setTop (mkF m 0 #[oJ q0, oS, oJ q1, oS] []))
  refine own_by (B := s₁.setTop (mkF m 21 #[oJ q0, oS, oJ q1, oS] [(.int (if q0 < q1 then (-1 : Int32) else (if q0 = q1 then (0 : Int32) else (1 : Int32))))])) (fun t k => ?_) ?_
  · refine XS.lloadN X0.here hx rfl (hb hby d7_0) rfl ?_
    refine XS.lloadN X0.here hx rfl (hb hby d7_1) rfl ?_
    refine XS.lcmp X0.here hx rfl (hb hby d7_2) rfl ?_
    show Steps p.tables e below (s₁.setTop (mkF m 3 #[oJ q0, oS, oJ q1, oS] [(.int (lcmpW q0 q1))])) _
    refine (fun t (k : Steps p.tables e below (s₁.setTop (mkF m 21 #[oJ q0, oS, oJ q1, oS] [(.int (if q0 < q1 then (-1 : Int32) else (if q0 = q1 then (0 : Int32) else (1 : Int32))))])) t) => (?_ : Steps p.tables e below _ t)) _ ?_
    · by_cases hc1 : q0 < q1
      · simp only [if_pos hc1] at k
        refine XS.ifNo X0.here hx rfl (hb hby d7_3) rfl ((if0 _ _).trans (tlt ((lw_lt _ _).mpr hc1)).2.1) ?_
        show Steps p.tables e below (s₁.setTop (mkF m 6 #[oJ q0, oS, oJ q1, oS] [])) _
        refine XS.iconst X0.here hx rfl (hb hby d7_6) ?_
        refine XS.goto X0.here hx rfl (pc0 := 7) (pc' := 21) rfl (hb hby d7_7) dE_ dE_ ?_
        show Steps p.tables e below (s₁.setTop (mkF m 21 #[oJ q0, oS, oJ q1, oS] [(.int (-1 : Int32))])) _
        exact k
      · simp only [if_neg hc1] at k
        refine XS.ifYes X0.here hx rfl (pc0 := 3) (pc' := 10) rfl (hb hby d7_3) rfl ((if0 _ _).trans (flt (fun q => hc1 ((lw_lt _ _).mp q))).2.1) dE_ dE_ ?_
        show Steps p.tables e below (s₁.setTop (mkF m 10 #[oJ q0, oS, oJ q1, oS] [])) _
        refine XS.lloadN X0.here hx rfl (hb hby d7_10) rfl ?_
        refine XS.lloadN X0.here hx rfl (hb hby d7_11) rfl ?_
        refine XS.lcmp X0.here hx rfl (hb hby d7_12) rfl ?_
        show Steps p.tables e below (s₁.setTop (mkF m 13 #[oJ q0, oS, oJ q1, oS] [(.int (lcmpW q0 q1))])) _
        refine (fun t (k : Steps p.tables e below (s₁.setTop (mkF m 21 #[oJ q0, oS, oJ q1, oS] [(.int (if q0 = q1 then (0 : Int32) else (1 : Int32)))])) t) => (?_ : Steps p.tables e below _ t)) _ ?_
        · by_cases hc2 : q0 = q1
          · simp only [if_pos hc2] at k
            refine XS.ifNo X0.here hx rfl (hb hby d7_13) rfl ((if0 _ _).trans (teq ((lw_eq _ _).mpr hc2)).2) ?_
            show Steps p.tables e below (s₁.setTop (mkF m 16 #[oJ q0, oS, oJ q1, oS] [])) _
            refine XS.iconst X0.here hx rfl (hb hby d7_16) ?_
            refine XS.goto X0.here hx rfl (pc0 := 17) (pc' := 21) rfl (hb hby d7_17) dE_ dE_ ?_
            show Steps p.tables e below (s₁.setTop (mkF m 21 #[oJ q0, oS, oJ q1, oS] [oZ])) _
            exact k
          · simp only [if_neg hc2] at k
            refine XS.ifYes X0.here hx rfl (pc0 := 13) (pc' := 20) rfl (hb hby d7_13) rfl ((if0 _ _).trans (feq (fun q => hc2 ((lw_eq _ _).mp q))).2) dE_ dE_ ?_
            show Steps p.tables e below (s₁.setTop (mkF m 20 #[oJ q0, oS, oJ q1, oS] [])) _
            refine XS.iconst X0.here hx rfl (hb hby d7_20) ?_
            exact k
        show Steps p.tables e below (s₁.setTop (mkF m 21 #[oJ q0, oS, oJ q1, oS] [(.int (if q0 = q1 then (0 : Int32) else (1 : Int32)))])) _
        exact k
    show Steps p.tables e below (s₁.setTop (mkF m 21 #[oJ q0, oS, oJ q1, oS] [(.int (if q0 < q1 then (-1 : Int32) else (if q0 = q1 then (0 : Int32) else (1 : Int32))))])) _
    exact k
  exact own_retI X0 Bd.notSynchronized hx Bd.returns (hb hby d7_21) (by
      try rw [show s₁.heap = h0 from e0]
      exact ⟨congrArg (fun z => some (Value.int z)) (show (if q0 < q1 then (-1 : Int32) else (if q0 = q1 then (0 : Int32) else (1 : Int32))) = (fcmp q0 q1) from rfl), N0, rfl⟩) dE_ dE_

def fmaxI (p0 p1 : Int32) : Int32 := (if p0 < p1 then p1 else p0)
theorem d10_0 : dC1_ 0 (.iload_n 0, 1) := by decide +kernel
theorem d10_1 : dC1_ 1 (.iload_n 1, 1) := by decide +kernel
theorem d10_2 : dC1_ 2 (.if_icmp .lt 7, 3) := by decide +kernel
theorem d10_5 : dC1_ 5 (.iload_n 0, 1) := by decide +kernel
theorem d10_6 : dC1_ 6 (.goto 4, 3) := by decide +kernel
theorem d10_9 : dC1_ 9 (.iload_n 1, 1) := by decide +kernel
theorem d10_10 : dC1_ 10 (.ireturn, 1) := by decide +kernel
theorem ef_10 (m : MethodId) (x0 x1 : Int32) : entryFrame m #[(.int x0), (.int x1)] 2 = mkF m 0 #[iv x0, iv x1] [] := by first | (simp [entryFrame, mkF, argsToLocals, Value.category]; done) | rfl
def Q10 (Z : State) (p0 p1 : Int32) (h0 : Heap) (n0 : Nat) (v : Option Value) (h : Heap) (L : List Loc) : Prop := v = some (.int (fmaxI p0 p1)) ∧ Fr n0 L ∧ h = h0
set_option maxRecDepth 65536 in
set_option maxHeartbeats 40000000 in
theorem rm10 (l : Launch) (Z : State) (a0 : Array Value) (hw : oW_ a0 Z) (ws : List Jvm.Cond) (p0 p1 : Int32) (h0 : Heap) (n0 : Nat) (Z0 : n0 ≤ h0.size) :
    MetFree l y1_ (head1 (Jvm.Cond.code y1_ jdk_29_method_65_code 2 (some .int) :: ws) (rM_ 0 0 0 0)) (fun a U => a = #[(.int p0), (.int p1)] ∧ Z.Warmed39 U.vm ∧ U.heap = h0) (fun _ _ _ _ _ => True) (fun _ U o U' => ∃ v L, o = .returned v ∧ Q10 Z p0 p1 h0 n0 v U'.heap L ∧ FrameEnd U o U' L (rM_ 0 0 0 0).cells (rM_ 0 0 0 0).slots) := by
  refine MetFree.of_bodySF (Jvm.Free.JP.mathPlain rfl (by decide +kernel)) hisR ?_
  intro p e s m args below meth c s₁ Bd hml0 hP hK
  obtain ⟨rfl, hZ, hh⟩ := hP
  have hx := Bd.exec
  have hby := Bd.bytes
  have hml : c.maxLocals = 2 := hml0
  have hown : s.vm.findClass c11_ = some m.cls := findClass_of_methodNamed Bd.named
  have hnm := (name_of_methodNamed Bd.named Bd.method).1
  have X0 : Stand p l e (rM_ 0 0 0 0) s m #[(.int p0), (.int p1)] below meth c s₁ [] 0 0 := Stand.of_body Bd
  have e0 : s₁.heap = h0 := by rw [← hh, Bd.state]; rfl
  have N0 := Fr.nil n0
  change own_Go p e below (own_Post s (Q10 Z p0 p1 h0 n0) (rM_ 0 0 0 0).cells (rM_ 0 0 0 0).slots) (s₁.setTop (entryFrame m #[(.int p0), (.int p1)] 2))
  refine own_by (fun t k => castTop (ef_10 m p0 p1) k) ?_
  show own_Go p e below _ (s₁.setTop (mkF m 0 #[iv p0, iv p1] []))
  refine own_by (B := s₁.setTop (mkF m 10 #[iv p0, iv p1] [(.int (if p0 < p1 then p1 else p0))])) (fun t k => ?_) ?_
  · refine XS.iloadN X0.here hx rfl (hb hby d10_0) rfl ?_
    refine XS.iloadN X0.here hx rfl (hb hby d10_1) rfl ?_
    refine (fun t (k : Steps p.tables e below (s₁.setTop (mkF m 10 #[iv p0, iv p1] [(.int (if p0 < p1 then p1 else p0))])) t) => (?_ : Steps p.tables e below _ t)) _ ?_
    · by_cases hc1 : p0 < p1
      · simp only [if_pos hc1] at k
        refine XS.icmpYes X0.here hx rfl (pc0 := 2) (pc' := 9) rfl (hb hby d10_2) rfl (tlt hc1).1 dE_ dE_ ?_
        show Steps p.tables e below (s₁.setTop (mkF m 9 #[iv p0, iv p1] [])) _
        refine XS.iloadN X0.here hx rfl (hb hby d10_9) rfl ?_
        exact k
      · simp only [if_neg hc1] at k
        refine XS.icmpNo X0.here hx rfl (hb hby d10_2) rfl (flt hc1).1 ?_
        show Steps p.tables e below (s₁.setTop (mkF m 5 #[iv p0, iv p1] [])) _
        refine XS.iloadN X0.here hx rfl (hb hby d10_5) rfl ?_
        refine XS.goto X0.here hx rfl (pc0 := 6) (pc' := 10) rfl (hb hby d10_6) dE_ dE_ ?_
        show Steps p.tables e below (s₁.setTop (mkF m 10 #[iv p0, iv p1] [(.int p0)])) _
        exact k
    show Steps p.tables e below (s₁.setTop (mkF m 10 #[iv p0, iv p1] [(.int (if p0 < p1 then p1 else p0))])) _
    exact k
  exact own_retI X0 Bd.notSynchronized hx Bd.returns (hb hby d10_10) (by
      try rw [show s₁.heap = h0 from e0]
      exact ⟨congrArg (fun z => some (Value.int z)) (show (if p0 < p1 then p1 else p0) = (fmaxI p0 p1) from rfl), N0, rfl⟩) dE_ dE_

def fmax (q0 q1 : Int64) : Int64 := (if q0 < q1 then q1 else q0)
theorem d33_0 : dC2_ 0 (.lload_n 0, 1) := by decide +kernel
theorem d33_1 : dC2_ 1 (.lload_n 2, 1) := by decide +kernel
theorem d33_2 : dC2_ 2 (.lcmp, 1) := by decide +kernel
theorem d33_3 : dC2_ 3 (.ifCond .lt 7, 3) := by decide +kernel
theorem d33_6 : dC2_ 6 (.lload_n 0, 1) := by decide +kernel
theorem d33_7 : dC2_ 7 (.goto 4, 3) := by decide +kernel
theorem d33_10 : dC2_ 10 (.lload_n 2, 1) := by decide +kernel
theorem d33_11 : dC2_ 11 (.lreturn, 1) := by decide +kernel
theorem ef_33 (m : MethodId) (x0 x1 : Int64) : entryFrame m #[(.long x0), (.long x1)] 4 = mkF m 0 #[oJ x0, oS, oJ x1, oS] [] := by first | (simp [entryFrame, mkF, argsToLocals, Value.category]; done) | rfl
def Q33 (Z : State) (q0 q1 : Int64) (h0 : Heap) (n0 : Nat) (v : Option Value) (h : Heap) (L : List Loc) : Prop := v = some (.long (fmax q0 q1)) ∧ Fr n0 L ∧ h = h0
set_option maxRecDepth 65536 in
set_option maxHeartbeats 40000000 in
theorem rm33 (l : Launch) (Z : State) (a0 : Array Value) (hw : oW_ a0 Z) (ws : List Jvm.Cond) (q0 q1 : Int64) (h0 : Heap) (n0 : Nat) (Z0 : n0 ≤ h0.size) :
    MetFree l y2_ (head1 (Jvm.Cond.code y2_ jdk_29_method_66_code 4 (some .long) :: ws) (rM_ 0 0 0 0)) (fun a U => a = #[(.long q0), (.long q1)] ∧ Z.Warmed39 U.vm ∧ U.heap = h0) (fun _ _ _ _ _ => True) (fun _ U o U' => ∃ v L, o = .returned v ∧ Q33 Z q0 q1 h0 n0 v U'.heap L ∧ FrameEnd U o U' L (rM_ 0 0 0 0).cells (rM_ 0 0 0 0).slots) := by
  refine MetFree.of_bodySF (Jvm.Free.JP.mathPlain rfl (by decide +kernel)) hisR ?_
  intro p e s m args below meth c s₁ Bd hml0 hP hK
  obtain ⟨rfl, hZ, hh⟩ := hP
  have hx := Bd.exec
  have hby := Bd.bytes
  have hml : c.maxLocals = 4 := hml0
  have hown : s.vm.findClass c11_ = some m.cls := findClass_of_methodNamed Bd.named
  have hnm := (name_of_methodNamed Bd.named Bd.method).1
  have X0 : Stand p l e (rM_ 0 0 0 0) s m #[(.long q0), (.long q1)] below meth c s₁ [] 0 0 := Stand.of_body Bd
  have e0 : s₁.heap = h0 := by rw [← hh, Bd.state]; rfl
  have N0 := Fr.nil n0
  change own_Go p e below (own_Post s (Q33 Z q0 q1 h0 n0) (rM_ 0 0 0 0).cells (rM_ 0 0 0 0).slots) (s₁.setTop (entryFrame m #[(.long q0), (.long q1)] 4))
  refine own_by (fun t k => castTop (ef_33 m q0 q1) k) ?_
  show own_Go p e below _ (s₁.setTop (mkF m 0 #[oJ q0, oS, oJ q1, oS] []))
  refine own_by (B := s₁.setTop (mkF m 11 #[oJ q0, oS, oJ q1, oS] [(.long (if q0 < q1 then q1 else q0))])) (fun t k => ?_) ?_
  · refine XS.lloadN X0.here hx rfl (hb hby d33_0) rfl ?_
    refine XS.lloadN X0.here hx rfl (hb hby d33_1) rfl ?_
    refine XS.lcmp X0.here hx rfl (hb hby d33_2) rfl ?_
    show Steps p.tables e below (s₁.setTop (mkF m 3 #[oJ q0, oS, oJ q1, oS] [(.int (lcmpW q0 q1))])) _
    refine (fun t (k : Steps p.tables e below (s₁.setTop (mkF m 11 #[oJ q0, oS, oJ q1, oS] [(.long (if q0 < q1 then q1 else q0))])) t) => (?_ : Steps p.tables e below _ t)) _ ?_
    · by_cases hc1 : q0 < q1
      · simp only [if_pos hc1] at k
        refine XS.ifYes X0.here hx rfl (pc0 := 3) (pc' := 10) rfl (hb hby d33_3) rfl ((if0 _ _).trans (tlt ((lw_lt _ _).mpr hc1)).1) dE_ dE_ ?_
        show Steps p.tables e below (s₁.setTop (mkF m 10 #[oJ q0, oS, oJ q1, oS] [])) _
        refine XS.lloadN X0.here hx rfl (hb hby d33_10) rfl ?_
        exact k
      · simp only [if_neg hc1] at k
        refine XS.ifNo X0.here hx rfl (hb hby d33_3) rfl ((if0 _ _).trans (flt (fun q => hc1 ((lw_lt _ _).mp q))).1) ?_
        show Steps p.tables e below (s₁.setTop (mkF m 6 #[oJ q0, oS, oJ q1, oS] [])) _
        refine XS.lloadN X0.here hx rfl (hb hby d33_6) rfl ?_
        refine XS.goto X0.here hx rfl (pc0 := 7) (pc' := 11) rfl (hb hby d33_7) dE_ dE_ ?_
        show Steps p.tables e below (s₁.setTop (mkF m 11 #[oJ q0, oS, oJ q1, oS] [(.long q0)])) _
        exact k
    show Steps p.tables e below (s₁.setTop (mkF m 11 #[oJ q0, oS, oJ q1, oS] [(.long (if q0 < q1 then q1 else q0))])) _
    exact k
  exact own_retL X0 Bd.notSynchronized hx Bd.returns (hb hby d33_11) (by
      try rw [show s₁.heap = h0 from e0]
      exact ⟨congrArg (fun z => some (Value.long z)) (show (if q0 < q1 then q1 else q0) = (fmax q0 q1) from rfl), N0, rfl⟩) dE_ dE_

def fmin (q0 q1 : Int64) : Int64 := (if q1 < q0 then q1 else q0)
theorem d24_0 : dC3_ 0 (.lload_n 0, 1) := by decide +kernel
theorem d24_1 : dC3_ 1 (.lload_n 2, 1) := by decide +kernel
theorem d24_2 : dC3_ 2 (.lcmp, 1) := by decide +kernel
theorem d24_3 : dC3_ 3 (.ifCond .gt 7, 3) := by decide +kernel
theorem d24_6 : dC3_ 6 (.lload_n 0, 1) := by decide +kernel
theorem d24_7 : dC3_ 7 (.goto 4, 3) := by decide +kernel
theorem d24_10 : dC3_ 10 (.lload_n 2, 1) := by decide +kernel
theorem d24_11 : dC3_ 11 (.lreturn, 1) := by decide +kernel
theorem ef_24 (m : MethodId) (x0 x1 : Int64) : entryFrame m #[(.long x0), (.long x1)] 4 = mkF m 0 #[oJ x0, oS, oJ x1, oS] [] := by first | (simp [entryFrame, mkF, argsToLocals, Value.category]; done) | rfl
def Q24 (Z : State) (q0 q1 : Int64) (h0 : Heap) (n0 : Nat) (v : Option Value) (h : Heap) (L : List Loc) : Prop := v = some (.long (fmin q0 q1)) ∧ Fr n0 L ∧ h = h0
set_option maxRecDepth 65536 in
set_option maxHeartbeats 40000000 in
theorem rm24 (l : Launch) (Z : State) (a0 : Array Value) (hw : oW_ a0 Z) (ws : List Jvm.Cond) (q0 q1 : Int64) (h0 : Heap) (n0 : Nat) (Z0 : n0 ≤ h0.size) :
    MetFree l y3_ (head1 (Jvm.Cond.code y3_ jdk_29_method_70_code 4 (some .long) :: ws) (rM_ 0 0 0 0)) (fun a U => a = #[(.long q0), (.long q1)] ∧ Z.Warmed39 U.vm ∧ U.heap = h0) (fun _ _ _ _ _ => True) (fun _ U o U' => ∃ v L, o = .returned v ∧ Q24 Z q0 q1 h0 n0 v U'.heap L ∧ FrameEnd U o U' L (rM_ 0 0 0 0).cells (rM_ 0 0 0 0).slots) := by
  refine MetFree.of_bodySF (Jvm.Free.JP.mathPlain rfl (by decide +kernel)) hisR ?_
  intro p e s m args below meth c s₁ Bd hml0 hP hK
  obtain ⟨rfl, hZ, hh⟩ := hP
  have hx := Bd.exec
  have hby := Bd.bytes
  have hml : c.maxLocals = 4 := hml0
  have hown : s.vm.findClass c11_ = some m.cls := findClass_of_methodNamed Bd.named
  have hnm := (name_of_methodNamed Bd.named Bd.method).1
  have X0 : Stand p l e (rM_ 0 0 0 0) s m #[(.long q0), (.long q1)] below meth c s₁ [] 0 0 := Stand.of_body Bd
  have e0 : s₁.heap = h0 := by rw [← hh, Bd.state]; rfl
  have N0 := Fr.nil n0
  change own_Go p e below (own_Post s (Q24 Z q0 q1 h0 n0) (rM_ 0 0 0 0).cells (rM_ 0 0 0 0).slots) (s₁.setTop (entryFrame m #[(.long q0), (.long q1)] 4))
  refine own_by (fun t k => castTop (ef_24 m q0 q1) k) ?_
  show own_Go p e below _ (s₁.setTop (mkF m 0 #[oJ q0, oS, oJ q1, oS] []))
  refine own_by (B := s₁.setTop (mkF m 11 #[oJ q0, oS, oJ q1, oS] [(.long (if q1 < q0 then q1 else q0))])) (fun t k => ?_) ?_
  · refine XS.lloadN X0.here hx rfl (hb hby d24_0) rfl ?_
    refine XS.lloadN X0.here hx rfl (hb hby d24_1) rfl ?_
    refine XS.lcmp X0.here hx rfl (hb hby d24_2) rfl ?_
    show Steps p.tables e below (s₁.setTop (mkF m 3 #[oJ q0, oS, oJ q1, oS] [(.int (lcmpW q0 q1))])) _
    refine (fun t (k : Steps p.tables e below (s₁.setTop (mkF m 11 #[oJ q0, oS, oJ q1, oS] [(.long (if q1 < q0 then q1 else q0))])) t) => (?_ : Steps p.tables e below _ t)) _ ?_
    · by_cases hc1 : q1 < q0
      · simp only [if_pos hc1] at k
        refine XS.ifYes X0.here hx rfl (pc0 := 3) (pc' := 10) rfl (hb hby d24_3) rfl ((if0 _ _).trans (tlt ((lw_gt _ _).mpr hc1)).2.2.1) dE_ dE_ ?_
        show Steps p.tables e below (s₁.setTop (mkF m 10 #[oJ q0, oS, oJ q1, oS] [])) _
        refine XS.lloadN X0.here hx rfl (hb hby d24_10) rfl ?_
        exact k
      · simp only [if_neg hc1] at k
        refine XS.ifNo X0.here hx rfl (hb hby d24_3) rfl ((if0 _ _).trans (flt (fun q => hc1 ((lw_gt _ _).mp q))).2.2.1) ?_
        show Steps p.tables e below (s₁.setTop (mkF m 6 #[oJ q0, oS, oJ q1, oS] [])) _
        refine XS.lloadN X0.here hx rfl (hb hby d24_6) rfl ?_
        refine XS.goto X0.here hx rfl (pc0 := 7) (pc' := 11) rfl (hb hby d24_7) dE_ dE_ ?_
        show Steps p.tables e below (s₁.setTop (mkF m 11 #[oJ q0, oS, oJ q1, oS] [(.long q0)])) _
        exact k
    show Steps p.tables e below (s₁.setTop (mkF m 11 #[oJ q0, oS, oJ q1, oS] [(.long (if q1 < q0 then q1 else q0))])) _
    exact k
  exact own_retL X0 Bd.notSynchronized hx Bd.returns (hb hby d24_11) (by
      try rw [show s₁.heap = h0 from e0]
      exact ⟨congrArg (fun z => some (Value.long z)) (show (if q1 < q0 then q1 else q0) = (fmin q0 q1) from rfl), N0, rfl⟩) dE_ dE_

def fcp (q1 q2 : Int64) (w1 : Int32) : Int32 := (if w1 = (0 : Int32) then (fcmp q1 q2) else (fcmp q2 q1))
theorem d6_0 : dC4_ 0 (.aload_n 0, 1) := by decide +kernel
theorem d6_1 : dC4_ 1 (.getfield 42, 3) := by decide +kernel
theorem d6_4 : dC4_ 4 (.ifCond .eq 11, 3) := by decide +kernel
theorem d6_7 : dC4_ 7 (.lload_n 3, 1) := by decide +kernel
theorem d6_8 : dC4_ 8 (.lload_n 1, 1) := by decide +kernel
theorem d6_9 : dC4_ 9 (.invokestatic 143, 3) := by decide +kernel
theorem d6_12 : dC4_ 12 (.goto 8, 3) := by decide +kernel
theorem d6_15 : dC4_ 15 (.lload_n 1, 1) := by decide +kernel
theorem d6_16 : dC4_ 16 (.lload_n 3, 1) := by decide +kernel
theorem d6_17 : dC4_ 17 (.invokestatic 143, 3) := by decide +kernel
theorem d6_20 : dC4_ 20 (.ireturn, 1) := by decide +kernel
theorem pn_6 : plainName "com/example/tidebook/tidebook/book/PriceLevels" = true := by first | (simp [plainName, overriddenIn]; done) | decide +kernel
theorem pd_4 : parseMethodDescriptor "(JJ)I" = some ⟨[.long, .long], some .int⟩ := by decide +kernel
theorem ef_6 (m : MethodId) (x0 : Addr) (x1 x2 : Int64) : entryFrame m #[(.ref x0), (.long x1), (.long x2)] 5 = mkF m 0 (lA0_ x0 x1 x2) [] := by first | (simp [entryFrame, mkF, argsToLocals, Value.category]; done) | rfl
def Q6 (Z : State) (o0 : Addr) (q1 q2 : Int64) (w1 : Int32) (h0 : Heap) (n0 : Nat) (v : Option Value) (h : Heap) (L : List Loc) : Prop := v = some (.int (fcp q1 q2 w1)) ∧ Fr n0 L ∧ h = h0
set_option maxRecDepth 65536 in
set_option maxHeartbeats 40000000 in
theorem rm6 (l : Launch) (Z : State) (a0 : Array Value) (hw : oW_ a0 Z) (ws : List Jvm.Cond) (o0 : Addr) (q1 q2 : Int64) (w1 : Int32) (h0 : Heap) (n0 : Nat) (Z0 : n0 ≤ h0.size) (F_highestFirst_o0 : Fld Z h0 o0 c0_ "highestFirst" "Z" (.int w1)) :
    MetFree l y4_ (head1 (Jvm.Cond.code y4_ prog_3_method_18_code 5 (some .int) :: ws) (rM_ 1 0 0 15)) (fun a U => a = #[(.ref o0), (.long q1), (.long q2)] ∧ Z.Warmed39 U.vm ∧ U.heap = h0) (fun _ _ _ _ _ => True) (fun _ U o U' => ∃ v L, o = .returned v ∧ Q6 Z o0 q1 q2 w1 h0 n0 v U'.heap L ∧ FrameEnd U o U' L (rM_ 1 0 0 15).cells (rM_ 1 0 0 15).slots) := by
  refine MetFree.of_bodySF (plainFor_of_name pn_6) hisR ?_
  intro p e s m args below meth c s₁ Bd hml0 hP hK
  obtain ⟨rfl, hZ, hh⟩ := hP
  have hx := Bd.exec
  have hby := Bd.bytes
  have hml : c.maxLocals = 5 := hml0
  have hown : s.vm.findClass c0_ = some m.cls := findClass_of_methodNamed Bd.named
  have hnm := (name_of_methodNamed Bd.named Bd.method).1
  have X0 : Stand p l e (rM_ 1 0 0 15) s m #[(.ref o0), (.long q1), (.long q2)] below meth c s₁ [] 0 0 := Stand.of_body Bd
  have e0 : s₁.heap = h0 := by rw [← hh, Bd.state]; rfl
  have N0 := Fr.nil n0
  change own_Go p e below (own_Post s (Q6 Z o0 q1 q2 w1 h0 n0) (rM_ 1 0 0 15).cells (rM_ 1 0 0 15).slots) (s₁.setTop (entryFrame m #[(.ref o0), (.long q1), (.long q2)] 5))
  refine own_by (fun t k => castTop (ef_6 m o0 q1 q2) k) ?_
  show own_Go p e below _ (s₁.setTop (mkF m 0 (lA0_ o0 q1 q2) []))
  refine own_by (B := s₁.setTop (mkF m 1 (lA0_ o0 q1 q2) [(.ref o0)])) (fun t k => ?_) ?_
  · refine XS.aloadN X0.here hx rfl (hb hby d6_0) rfl rfl ?_
    exact k
  refine own_c1 (getF X0 hx hZ hown (host := "") (Or.inl (hW hw 31 rfl)) Via.refl e0 F_highestFirst_o0 rfl rfl (hb hby d6_1)) fun T1 X1 e1 => ?_
  show own_Go p e below _ (T1.setTop (mkF m 4 (lA0_ o0 q1 q2) [(.int w1)]))
  by_cases hc3 : w1 = (0 : Int32)
  · skip
    refine own_by (fun t k => XS.ifYes X1.here hx rfl (pc0 := 4) (pc' := 15) rfl (hb hby d6_4) rfl ((if0 _ _).trans (teq hc3).1) dE_ dE_ k) ?_
    show own_Go p e below _ (T1.setTop (mkF m 15 (lA0_ o0 q1 q2) []))
    refine own_by (B := T1.setTop (mkF m 17 (lA0_ o0 q1 q2) [(.long q2), (.long q1)])) (fun t k => ?_) ?_
    · refine XS.lloadN X1.here hx rfl (hb hby d6_15) rfl ?_
      refine XS.lloadN X1.here hx rfl (hb hby d6_16) rfl ?_
      exact k
    refine own_cc (own_callS X1 hx hZ (y := y0_) hown (hW hw 52 rfl) (hW hw 53 rfl) (hW hw 54 rfl) (hW hw 55 rfl) dE_ (rm7 l Z a0 hw [] q1 q2 h0 n0 Z0 ) e1 0 dE_ dE_ dE_ dE_ rfl (by rw [hml]; rfl) [(.long q1), (.long q2)] [] rfl (lenOf pd_4 rfl) rfl (by show 2 * 0 + _ ≤ _; exact Nat.le_of_eq rfl) (hb hby d6_17)) fun T5 L5 v5 X5 hQ5 => ?_
    obtain ⟨rfl, N5, e5⟩ := hQ5
    replace N0 := Fr.app N0 N5
    show own_Go p e below _ (T5.setTop (mkF m 20 (lA0_ o0 q1 q2) [(.int (fcmp q1 q2))]))
    exact own_retI X5 Bd.notSynchronized hx Bd.returns (hb hby d6_20) (by
        try rw [show T5.heap = h0 from e5]
        exact ⟨congrArg (fun z => some (Value.int z)) (show (fcmp q1 q2) = (fcp q1 q2 w1) from (by simp only [fcp, if_pos hc3])), N0, rfl⟩) dE_ dE_
  · skip
    refine own_by (fun t k => XS.ifNo X1.here hx rfl (hb hby d6_4) rfl ((if0 _ _).trans (feq hc3).1) k) ?_
    show own_Go p e below _ (T1.setTop (mkF m 7 (lA0_ o0 q1 q2) []))
    refine own_by (B := T1.setTop (mkF m 9 (lA0_ o0 q1 q2) [(.long q1), (.long q2)])) (fun t k => ?_) ?_
    · refine XS.lloadN X1.here hx rfl (hb hby d6_7) rfl ?_
      refine XS.lloadN X1.here hx rfl (hb hby d6_8) rfl ?_
      exact k
    refine own_cc (own_callS X1 hx hZ (y := y0_) hown (hW hw 52 rfl) (hW hw 53 rfl) (hW hw 54 rfl) (hW hw 55 rfl) dE_ (rm7 l Z a0 hw [] q2 q1 h0 n0 Z0 ) e1 0 dE_ dE_ dE_ dE_ rfl (by rw [hml]; rfl) [(.long q2), (.long q1)] [] rfl (lenOf pd_4 rfl) rfl (by show 2 * 0 + _ ≤ _; exact Nat.le_of_eq rfl) (hb hby d6_9)) fun T7 L7 v7 X7 hQ7 => ?_
    obtain ⟨rfl, N7, e7⟩ := hQ7
    replace N0 := Fr.app N0 N7
    show own_Go p e below _ (T7.setTop (mkF m 12 (lA0_ o0 q1 q2) [(.int (fcmp q2 q1))]))
    refine own_by (B := T7.setTop (mkF m 20 (lA0_ o0 q1 q2) [(.int (fcmp q2 q1))])) (fun t k => ?_) ?_
    · refine XS.goto X7.here hx rfl (pc0 := 12) (pc' := 20) rfl (hb hby d6_12) dE_ dE_ ?_
      show Steps p.tables e below (T7.setTop (mkF m 20 (lA0_ o0 q1 q2) [(.int (fcmp q2 q1))])) _
      exact k
    exact own_retI X7 Bd.notSynchronized hx Bd.returns (hb hby d6_20) (by
        try rw [show T7.heap = h0 from e7]
        exact ⟨congrArg (fun z => some (Value.int z)) (show (fcmp q2 q1) = (fcp q1 q2 w1) from (by simp only [fcp, if_neg hc3])), N0, rfl⟩) dE_ dE_

theorem own_irr (x : Int64) : ¬ x < x := by rw [Int64.lt_iff_toInt_lt]; omega
theorem own_nz (x : Int64) : ¬ ((if (x &&& (9223372036854775807 : Int64)) = (0 : Int64) then (1 : Int64) else (x &&& (9223372036854775807 : Int64))) = (0 : Int64)) := by
  by_cases h : (x &&& (9223372036854775807 : Int64)) = (0 : Int64)
  · rw [if_pos h]; decide
  · rw [if_neg h]; exact h
theorem own_hi (x : Int32) : (if (x &&& (1 : Int32)) = (0 : Int32) then (0 : Int32) else (1 : Int32)) = (0 : Int32) ∨ (if (x &&& (1 : Int32)) = (0 : Int32) then (0 : Int32) else (1 : Int32)) = (1 : Int32) := by
  by_cases h : (x &&& (1 : Int32)) = (0 : Int32)
  · exact Or.inl (if_pos h)
  · exact Or.inr (if_neg h)
theorem own_fc (x y : Int64) : (fcmp x y < (0 : Int32) ↔ x < y) ∧ (fcmp x y = (0 : Int32) ↔ x = y) ∧ ((0 : Int32) < fcmp x y ↔ y < x) := by
  unfold fcmp
  by_cases h1 : x < y
  · have h2 : ¬ x = y := fun q => by subst q; exact own_irr _ h1
    have h3 : ¬ y < x := by rw [Int64.lt_iff_toInt_lt] at *; omega
    simp only [if_pos h1, h1, h2, h3]; decide
  · by_cases h2 : x = y
    · have h3 : ¬ y < x := by subst h2; exact own_irr _
      simp only [if_neg h1, if_pos h2, h1, h2, h3]
      subst h2
      simp only [own_irr]; decide
    · have h3 : y < x := by rw [Int64.lt_iff_toInt_lt] at *; rw [← Int64.toInt_inj] at h2; omega
      simp only [if_neg h1, if_neg h2, h1, h2, h3]; decide
theorem own_cp_self (x : Int64) (w : Int32) : ¬ (fcp x x w < (0 : Int32)) ∧ ¬ ((0 : Int32) < fcp x x w) := by
  unfold fcp
  have h := own_fc x x
  by_cases hw : w = (0 : Int32)
  · rw [if_pos hw, h.1, h.2.2]; exact ⟨own_irr _, own_irr _⟩
  · rw [if_neg hw, h.1, h.2.2]; exact ⟨own_irr _, own_irr _⟩
theorem own_c0 (x y : Int64) (w : Int32) : fcp x y w = (0 : Int32) ↔ y = x := by
  unfold fcp
  by_cases hw : w = (0 : Int32)
  · rw [if_pos hw, (own_fc x y).2.1]; exact eq_comm
  · rw [if_neg hw, (own_fc y x).2.1]
theorem own_ceq (x y : Int64) (w : Int32) (h : fcp x y w = (0 : Int32)) : y = x := (own_c0 x y w).mp h
theorem own_cne (x y : Int64) (w : Int32) (h : ¬ (fcp x y w = (0 : Int32))) : ¬ (y = x) := fun q => h ((own_c0 x y w).mpr q)
theorem own_nl (x y : Int64) (h1 : ¬ x < y) (h2 : ¬ y = x) : y < x := by
  rw [Int64.lt_iff_toInt_lt] at *; rw [← Int64.toInt_inj] at h2; omega
theorem own_lt1 (x y : Int64) (hi : Int32) (o1 : ¬ (fcp x y (nar .boolean hi) = (0 : Int32))) (o2 : fcp x y (nar .boolean hi) < (0 : Int32)) (h : hi = (0 : Int32)) (hh : hi = (0 : Int32) ∨ hi = (1 : Int32)) : x < y := by
  subst h
  unfold fcp at o2
  rw [if_pos dE_] at o2
  exact (own_fc x y).1.mp o2
theorem own_lt2 (x y : Int64) (hi : Int32) (o1 : ¬ (fcp x y (nar .boolean hi) = (0 : Int32))) (o2 : ¬ (fcp x y (nar .boolean hi) < (0 : Int32))) (h : hi = (0 : Int32)) (hh : hi = (0 : Int32) ∨ hi = (1 : Int32)) : y < x := by
  have hn := own_cne _ _ _ o1
  subst h
  unfold fcp at o2
  rw [if_pos dE_, (own_fc x y).1] at o2
  exact own_nl x y o2 hn
theorem own_lt3 (x y : Int64) (hi : Int32) (o1 : ¬ (fcp x y (nar .boolean hi) = (0 : Int32))) (o2 : fcp x y (nar .boolean hi) < (0 : Int32)) (h : ¬ (hi = (0 : Int32))) (hh : hi = (0 : Int32) ∨ hi = (1 : Int32)) : y < x := by
  have h' := hh.resolve_left h
  subst h'
  unfold fcp at o2
  rw [if_neg dE_] at o2
  exact (own_fc y x).1.mp o2
theorem own_lt4 (x y : Int64) (hi : Int32) (o1 : ¬ (fcp x y (nar .boolean hi) = (0 : Int32))) (o2 : ¬ (fcp x y (nar .boolean hi) < (0 : Int32))) (h : ¬ (hi = (0 : Int32))) (hh : hi = (0 : Int32) ∨ hi = (1 : Int32)) : x < y := by
  have hn := own_cne _ _ _ o1
  have h' := hh.resolve_left h
  subst h'
  unfold fcp at o2
  rw [if_neg dE_, (own_fc y x).1] at o2
  exact own_nl y x o2 (fun q => hn q.symm)
theorem own_ltne {x y : Int64} (h : x < y) : ¬ x = y := fun q => by subst q; exact own_irr _ h
theorem own_ltng {x y : Int64} (h : x < y) : ¬ y < x := by rw [Int64.lt_iff_toInt_lt] at *; omega
theorem own_fmin_q2_t (x y : Int64) (h : x < y) : fmin y x = x := by unfold fmin; rw [if_pos h]
theorem own_fmin_q3_f (x y : Int64) (h : x < y) : ¬ (fmin y x = y) := by rw [own_fmin_q2_t x y h]; exact own_ltne h
theorem own_fmin_q3_t (x y : Int64) (h : y < x) : fmin y x = y := by unfold fmin; rw [if_neg (own_ltng h)]
theorem own_fmin_q2_f (x y : Int64) (h : y < x) : ¬ (fmin y x = x) := by rw [own_fmin_q3_t x y h]; exact own_ltne h
theorem own_fmax_q2_t (x y : Int64) (h : y < x) : fmax y x = x := by unfold fmax; rw [if_pos h]
theorem own_fmax_q3_f (x y : Int64) (h : y < x) : ¬ (fmax y x = y) := by rw [own_fmax_q2_t x y h]; exact fun q => own_ltne h q.symm
theorem own_fmax_q3_t (x y : Int64) (h : x < y) : fmax y x = y := by unfold fmax; rw [if_neg (own_ltng h)]
theorem own_fmax_q2_f (x y : Int64) (h : x < y) : ¬ (fmax y x = x) := by rw [own_fmax_q3_t x y h]; exact fun q => own_ltne h q.symm

theorem d12_0 : dC5_ 0 (.aload_n 0, 1) := by decide +kernel
theorem d12_1 : dC5_ 1 (.getfield 11, 3) := by decide +kernel
theorem d12_4 : dC5_ 4 (.aload_n 0, 1) := by decide +kernel
theorem d12_5 : dC5_ 5 (.getfield 33, 3) := by decide +kernel
theorem d12_8 : dC5_ 8 (.laload, 1) := by decide +kernel
theorem d12_9 : dC5_ 9 (.lreturn, 1) := by decide +kernel
theorem pn_12 : plainName "com/example/tidebook/tidebook/book/PriceLevels" = true := by first | (simp [plainName, overriddenIn]; done) | decide +kernel
theorem ef_12 (m : MethodId) (x0 : Addr) : entryFrame m #[(.ref x0)] 1 = mkF m 0 #[rv x0] [] := by first | (simp [entryFrame, mkF, argsToLocals, Value.category]; done) | rfl
def Q12_1 (Z : State) (o0 o2 : Addr) (k0 : ClassId) (j0 j1 j2 : Int64) (h0 : Heap) (n0 : Nat) (v : Option Value) (h : Heap) (L : List Loc) : Prop := v = some (.long j0) ∧ Fr n0 L ∧ h = h0
set_option maxRecDepth 65536 in
set_option maxHeartbeats 40000000 in
theorem rm12_1 (l : Launch) (Z : State) (a0 : Array Value) (hw : oW_ a0 Z) (ws : List Jvm.Cond) (o0 o2 : Addr) (k0 : ClassId) (j0 j1 j2 : Int64) (h0 : Heap) (n0 : Nat) (Z0 : n0 ≤ h0.size) (F_prices_o0 : Fld Z h0 o0 c0_ "prices" "[J" (.ref o2)) (F_best_o0 : Fld Z h0 o0 c0_ "best" "I" oZ) (V_o2 : Arv Z h0 o2 k0 .long (8 : Int32) [(.long j0), (.long j1), (.long j2)] oY) :
    MetFree l y5_ (head1 (Jvm.Cond.code y5_ prog_3_method_2_code 1 (some .long) :: ws) (rM_ 0 0 0 0)) (fun a U => a = #[(.ref o0)] ∧ Z.Warmed39 U.vm ∧ U.heap = h0) (fun _ _ _ _ _ => True) (fun _ U o U' => ∃ v L, o = .returned v ∧ Q12_1 Z o0 o2 k0 j0 j1 j2 h0 n0 v U'.heap L ∧ FrameEnd U o U' L (rM_ 0 0 0 0).cells (rM_ 0 0 0 0).slots) := by
  refine MetFree.of_bodySF (plainFor_of_name pn_12) hisR ?_
  intro p e s m args below meth c s₁ Bd hml0 hP hK
  obtain ⟨rfl, hZ, hh⟩ := hP
  have hx := Bd.exec
  have hby := Bd.bytes
  have hml : c.maxLocals = 1 := hml0
  have hown : s.vm.findClass c0_ = some m.cls := findClass_of_methodNamed Bd.named
  have hnm := (name_of_methodNamed Bd.named Bd.method).1
  have X0 : Stand p l e (rM_ 0 0 0 0) s m #[(.ref o0)] below meth c s₁ [] 0 0 := Stand.of_body Bd
  have e0 : s₁.heap = h0 := by rw [← hh, Bd.state]; rfl
  have N0 := Fr.nil n0
  change own_Go p e below (own_Post s (Q12_1 Z o0 o2 k0 j0 j1 j2 h0 n0) (rM_ 0 0 0 0).cells (rM_ 0 0 0 0).slots) (s₁.setTop (entryFrame m #[(.ref o0)] 1))
  refine own_by (fun t k => castTop (ef_12 m o0) k) ?_
  show own_Go p e below _ (s₁.setTop (mkF m 0 #[rv o0] []))
  refine own_by (B := s₁.setTop (mkF m 1 #[rv o0] [(.ref o0)])) (fun t k => ?_) ?_
  · refine XS.aloadN X0.here hx rfl (hb hby d12_0) rfl rfl ?_
    exact k
  refine own_c1 (getF X0 hx hZ hown (host := "") (Or.inl (hW hw 11 rfl)) Via.refl e0 F_prices_o0 rfl rfl (hb hby d12_1)) fun T1 X1 e1 => ?_
  show own_Go p e below _ (T1.setTop (mkF m 4 #[rv o0] [(.ref o2)]))
  refine own_by (B := T1.setTop (mkF m 5 #[rv o0] [(.ref o0), (.ref o2)])) (fun t k => ?_) ?_
  · refine XS.aloadN X1.here hx rfl (hb hby d12_4) rfl rfl ?_
    exact k
  refine own_c1 (getF X1 hx hZ hown (host := "") (Or.inl (hW hw 25 rfl)) Via.refl e1 F_best_o0 rfl rfl (hb hby d12_5)) fun T2 X2 e2 => ?_
  show own_Go p e below _ (T2.setTop (mkF m 8 #[rv o0] [oZ, (.ref o2)]))
  refine own_by (B := T2.setTop (mkF m 9 #[rv o0] [(.long j0)])) (fun t k => ?_) ?_
  · obtain ⟨cl3, Ar3, q3, S3, N3, H3, G3⟩ := id V_o2
    have hin3 : ¬ ((0 : Int32) < 0 ∨ cl3.slots.size ≤ ((0 : Int32)).toNatClampNeg) := inb_of S3 ⟨by decide, by decide⟩
    have hat3 : cl3.slots[((0 : Int32)).toNatClampNeg]? = some (.long j0) := H3.at hin3 rfl
    refine X2.laload hx (j := (0 : Int32)) (v := (.long j0)) (by rw [show T2.heap = h0 from e2]; exact Ar3.1) (State.isArrayOf_alike hZ.alike Ar3.2.1) Ar3.2.2 hin3 hat3 (g := (mkF m 8 #[rv o0] [oZ, (.ref o2)])) rfl rfl (hb hby d12_8) _ ?_
    show Steps p.tables e below (T2.setTop (mkF m 9 #[rv o0] [(.long j0)])) _
    exact k
  exact own_retL X2 Bd.notSynchronized hx Bd.returns (hb hby d12_9) (by
      try rw [show T2.heap = h0 from e2]
      exact ⟨rfl, N0, rfl⟩) dE_ dE_

theorem d13_0 : dC6_ 0 (.aload_n 0, 1) := by decide +kernel
theorem d13_1 : dC6_ 1 (.getfield 15, 3) := by decide +kernel
theorem d13_4 : dC6_ 4 (.aload_n 0, 1) := by decide +kernel
theorem d13_5 : dC6_ 5 (.getfield 33, 3) := by decide +kernel
theorem d13_8 : dC6_ 8 (.laload, 1) := by decide +kernel
theorem d13_9 : dC6_ 9 (.lreturn, 1) := by decide +kernel
theorem pn_13 : plainName "com/example/tidebook/tidebook/book/PriceLevels" = true := by first | (simp [plainName, overriddenIn]; done) | decide +kernel
theorem ef_13 (m : MethodId) (x0 : Addr) : entryFrame m #[(.ref x0)] 1 = mkF m 0 #[rv x0] [] := by first | (simp [entryFrame, mkF, argsToLocals, Value.category]; done) | rfl
def Q13_2 (Z : State) (o0 o3 : Addr) (k1 : ClassId) (j3 j4 j5 : Int64) (h0 : Heap) (n0 : Nat) (v : Option Value) (h : Heap) (L : List Loc) : Prop := v = some (.long j3) ∧ Fr n0 L ∧ h = h0
set_option maxRecDepth 65536 in
set_option maxHeartbeats 40000000 in
theorem rm13_2 (l : Launch) (Z : State) (a0 : Array Value) (hw : oW_ a0 Z) (ws : List Jvm.Cond) (o0 o3 : Addr) (k1 : ClassId) (j3 j4 j5 : Int64) (h0 : Heap) (n0 : Nat) (Z0 : n0 ≤ h0.size) (F_sizes_o0 : Fld Z h0 o0 c0_ "sizes" "[J" (.ref o3)) (F_best_o0 : Fld Z h0 o0 c0_ "best" "I" oZ) (V_o3 : Arv Z h0 o3 k1 .long (8 : Int32) [(.long j3), (.long j4), (.long j5)] oY) :
    MetFree l y6_ (head1 (Jvm.Cond.code y6_ prog_3_method_3_code 1 (some .long) :: ws) (rM_ 0 0 0 0)) (fun a U => a = #[(.ref o0)] ∧ Z.Warmed39 U.vm ∧ U.heap = h0) (fun _ _ _ _ _ => True) (fun _ U o U' => ∃ v L, o = .returned v ∧ Q13_2 Z o0 o3 k1 j3 j4 j5 h0 n0 v U'.heap L ∧ FrameEnd U o U' L (rM_ 0 0 0 0).cells (rM_ 0 0 0 0).slots) := by
  refine MetFree.of_bodySF (plainFor_of_name pn_13) hisR ?_
  intro p e s m args below meth c s₁ Bd hml0 hP hK
  obtain ⟨rfl, hZ, hh⟩ := hP
  have hx := Bd.exec
  have hby := Bd.bytes
  have hml : c.maxLocals = 1 := hml0
  have hown : s.vm.findClass c0_ = some m.cls := findClass_of_methodNamed Bd.named
  have hnm := (name_of_methodNamed Bd.named Bd.method).1
  have X0 : Stand p l e (rM_ 0 0 0 0) s m #[(.ref o0)] below meth c s₁ [] 0 0 := Stand.of_body Bd
  have e0 : s₁.heap = h0 := by rw [← hh, Bd.state]; rfl
  have N0 := Fr.nil n0
  change own_Go p e below (own_Post s (Q13_2 Z o0 o3 k1 j3 j4 j5 h0 n0) (rM_ 0 0 0 0).cells (rM_ 0 0 0 0).slots) (s₁.setTop (entryFrame m #[(.ref o0)] 1))
  refine own_by (fun t k => castTop (ef_13 m o0) k) ?_
  show own_Go p e below _ (s₁.setTop (mkF m 0 #[rv o0] []))
  refine own_by (B := s₁.setTop (mkF m 1 #[rv o0] [(.ref o0)])) (fun t k => ?_) ?_
  · refine XS.aloadN X0.here hx rfl (hb hby d13_0) rfl rfl ?_
    exact k
  refine own_c1 (getF X0 hx hZ hown (host := "") (Or.inl (hW hw 13 rfl)) Via.refl e0 F_sizes_o0 rfl rfl (hb hby d13_1)) fun T1 X1 e1 => ?_
  show own_Go p e below _ (T1.setTop (mkF m 4 #[rv o0] [(.ref o3)]))
  refine own_by (B := T1.setTop (mkF m 5 #[rv o0] [(.ref o0), (.ref o3)])) (fun t k => ?_) ?_
  · refine XS.aloadN X1.here hx rfl (hb hby d13_4) rfl rfl ?_
    exact k
  refine own_c1 (getF X1 hx hZ hown (host := "") (Or.inl (hW hw 25 rfl)) Via.refl e1 F_best_o0 rfl rfl (hb hby d13_5)) fun T2 X2 e2 => ?_
  show own_Go p e below _ (T2.setTop (mkF m 8 #[rv o0] [oZ, (.ref o3)]))
  refine own_by (B := T2.setTop (mkF m 9 #[rv o0] [(.long j3)])) (fun t k => ?_) ?_
  · obtain ⟨cl3, Ar3, q3, S3, N3, H3, G3⟩ := id V_o3
    have hin3 : ¬ ((0 : Int32) < 0 ∨ cl3.slots.size ≤ ((0 : Int32)).toNatClampNeg) := inb_of S3 ⟨by decide, by decide⟩
    have hat3 : cl3.slots[((0 : Int32)).toNatClampNeg]? = some (.long j3) := H3.at hin3 rfl
    refine X2.laload hx (j := (0 : Int32)) (v := (.long j3)) (by rw [show T2.heap = h0 from e2]; exact Ar3.1) (State.isArrayOf_alike hZ.alike Ar3.2.1) Ar3.2.2 hin3 hat3 (g := (mkF m 8 #[rv o0] [oZ, (.ref o3)])) rfl rfl (hb hby d13_8) _ ?_
    show Steps p.tables e below (T2.setTop (mkF m 9 #[rv o0] [(.long j3)])) _
    exact k
  exact own_retL X2 Bd.notSynchronized hx Bd.returns (hb hby d13_9) (by
      try rw [show T2.heap = h0 from e2]
      exact ⟨rfl, N0, rfl⟩) dE_ dE_

theorem d17_0 : dC7_ 0 (.aload_n 0, 1) := by decide +kernel
theorem d17_1 : dC7_ 1 (.invokespecial 1, 3) := by decide +kernel
theorem d17_4 : dC7_ 4 (.return_, 1) := by decide +kernel
theorem pn_17 : plainName "java/util/AbstractCollection" = true := by first | (simp [plainName, overriddenIn]; done) | decide +kernel
theorem ef_17 (m : MethodId) (x0 : Addr) : entryFrame m #[(.ref x0)] 1 = mkF m 0 #[rv x0] [] := by first | (simp [entryFrame, mkF, argsToLocals, Value.category]; done) | rfl
def Q17_3 (Z : State) (o0 : Addr) (h0 : Heap) (n0 : Nat) (v : Option Value) (h : Heap) (L : List Loc) : Prop := v = none ∧ Fr n0 L ∧ h = h0
set_option maxRecDepth 65536 in
set_option maxHeartbeats 40000000 in
theorem rm17_3 (l : Launch) (Z : State) (a0 : Array Value) (hw : oW_ a0 Z) (ws : List Jvm.Cond) (o0 : Addr) (h0 : Heap) (n0 : Nat) (Z0 : n0 ≤ h0.size) :
    MetFree l y7_ (head1 (Jvm.Cond.code y7_ jdk_22_method_1_code 1 none :: ws) (rM_ 1 0 0 12)) (fun a U => a = #[(.ref o0)] ∧ Z.Warmed39 U.vm ∧ U.heap = h0) (fun _ _ _ _ _ => True) (fun _ U o U' => ∃ v L, o = .returned v ∧ Q17_3 Z o0 h0 n0 v U'.heap L ∧ FrameEnd U o U' L (rM_ 1 0 0 12).cells (rM_ 1 0 0 12).slots) := by
  refine MetFree.of_bodySF (plainFor_of_name pn_17) hisR ?_
  intro p e s m args below meth c s₁ Bd hml0 hP hK
  obtain ⟨rfl, hZ, hh⟩ := hP
  have hx := Bd.exec
  have hby := Bd.bytes
  have hml : c.maxLocals = 1 := hml0
  have hown : s.vm.findClass c15_ = some m.cls := findClass_of_methodNamed Bd.named
  have hnm := (name_of_methodNamed Bd.named Bd.method).1
  have X0 : Stand p l e (rM_ 1 0 0 12) s m #[(.ref o0)] below meth c s₁ [] 0 0 := Stand.of_body Bd
  have e0 : s₁.heap = h0 := by rw [← hh, Bd.state]; rfl
  have N0 := Fr.nil n0
  change own_Go p e below (own_Post s (Q17_3 Z o0 h0 n0) (rM_ 1 0 0 12).cells (rM_ 1 0 0 12).slots) (s₁.setTop (entryFrame m #[(.ref o0)] 1))
  refine own_by (fun t k => castTop (ef_17 m o0) k) ?_
  show own_Go p e below _ (s₁.setTop (mkF m 0 #[rv o0] []))
  refine own_by (B := s₁.setTop (mkF m 1 #[rv o0] [(.ref o0)])) (fun t k => ?_) ?_
  · refine XS.aloadN X0.here hx rfl (hb hby d17_0) rfl rfl ?_
    exact k
  refine own_c1 (initO X0 hx hZ hown (hW hw 106 rfl) (hW hw 8 rfl) (hW hw 9 rfl) e0 rfl (by rw [hml]; rfl) rfl (hb hby d17_1) dE_ (W := 0) (by show 2 * 0 + _ ≤ _; exact Nat.le_of_eq rfl) dE_) fun T2 X2 e2 => ?_
  show own_Go p e below _ (T2.setTop (mkF m 4 #[rv o0] []))
  exact own_retV X2 Bd.notSynchronized hx Bd.returns (hb hby d17_4) (by
      try rw [show T2.heap = h0 from e2]
      exact ⟨rfl, N0, rfl⟩) dE_ dE_

theorem d16_0 : dC8_ 0 (.aload_n 0, 1) := by decide +kernel
theorem d16_1 : dC8_ 1 (.invokespecial 1, 3) := by decide +kernel
theorem d16_4 : dC8_ 4 (.aload_n 0, 1) := by decide +kernel
theorem d16_5 : dC8_ 5 (.iconst 0, 1) := by decide +kernel
theorem d16_6 : dC8_ 6 (.putfield 7, 3) := by decide +kernel
theorem d16_9 : dC8_ 9 (.return_, 1) := by decide +kernel
theorem pn_16 : plainName "java/util/AbstractList" = true := by first | (simp [plainName, overriddenIn]; done) | decide +kernel
theorem pd_1 : parseMethodDescriptor "()V" = some ⟨[], none⟩ := by decide +kernel
theorem ef_16 (m : MethodId) (x0 : Addr) : entryFrame m #[(.ref x0)] 1 = mkF m 0 #[rv x0] [] := by first | (simp [entryFrame, mkF, argsToLocals, Value.category]; done) | rfl
def Q16_4 (Z : State) (o0 : Addr) (i0 i1 : Int32) (h0 : Heap) (n0 : Nat) (v : Option Value) (h : Heap) (L : List Loc) : Prop := v = none ∧ Fr n0 L ∧ Keep h0 h [o0] ∧ Exa Z h o0 c1_ ∧ Fld Z h o0 c6_ "modCount" "I" oZ ∧ Fld Z h o0 c1_ "elementData" c5_ .null ∧ Fld Z h o0 c1_ "size" "I" (.int i1)
set_option maxRecDepth 65536 in
set_option maxHeartbeats 40000000 in
theorem rm16_4 (l : Launch) (Z : State) (a0 : Array Value) (hw : oW_ a0 Z) (ws : List Jvm.Cond) (o0 : Addr) (i0 i1 : Int32) (h0 : Heap) (n0 : Nat) (Z0 : n0 ≤ h0.size) (g_o0 : n0 ≤ o0) (E_o0 : Exa Z h0 o0 c1_) (F_modCount_o0 : Fld Z h0 o0 c6_ "modCount" "I" (.int i0)) (F_elementData_o0 : Fld Z h0 o0 c1_ "elementData" c5_ .null) (F_size_o0 : Fld Z h0 o0 c1_ "size" "I" (.int i1)) :
    MetFree l y8_ (head1 (Jvm.Cond.code y8_ jdk_39_method_1_code 1 none :: ws) (rM_ 2 0 0 24)) (fun a U => a = #[(.ref o0)] ∧ Z.Warmed39 U.vm ∧ U.heap = h0) (fun _ _ _ _ _ => True) (fun _ U o U' => ∃ v L, o = .returned v ∧ Q16_4 Z o0 i0 i1 h0 n0 v U'.heap L ∧ FrameEnd U o U' L (rM_ 2 0 0 24).cells (rM_ 2 0 0 24).slots) := by
  refine MetFree.of_bodySF (plainFor_of_name pn_16) hisR ?_
  intro p e s m args below meth c s₁ Bd hml0 hP hK
  obtain ⟨rfl, hZ, hh⟩ := hP
  have hx := Bd.exec
  have hby := Bd.bytes
  have hml : c.maxLocals = 1 := hml0
  have hown : s.vm.findClass c6_ = some m.cls := findClass_of_methodNamed Bd.named
  have hnm := (name_of_methodNamed Bd.named Bd.method).1
  have X0 : Stand p l e (rM_ 2 0 0 24) s m #[(.ref o0)] below meth c s₁ [] 0 0 := Stand.of_body Bd
  have e0 : s₁.heap = h0 := by rw [← hh, Bd.state]; rfl
  have N0 := Fr.nil n0
  have K0 : Keep h0 h0 [o0] := Keep.refl h0 _
  change own_Go p e below (own_Post s (Q16_4 Z o0 i0 i1 h0 n0) (rM_ 2 0 0 24).cells (rM_ 2 0 0 24).slots) (s₁.setTop (entryFrame m #[(.ref o0)] 1))
  refine own_by (fun t k => castTop (ef_16 m o0) k) ?_
  show own_Go p e below _ (s₁.setTop (mkF m 0 #[rv o0] []))
  refine own_by (B := s₁.setTop (mkF m 1 #[rv o0] [(.ref o0)])) (fun t k => ?_) ?_
  · refine XS.aloadN X0.here hx rfl (hb hby d16_0) rfl rfl ?_
    exact k
  refine own_cc (own_callI X0 hx hZ (y := y7_) rfl hown (hW hw 100 rfl) (hW hw 101 rfl) (hW hw 104 rfl) (hW hw 105 rfl) dE_ (rm17_3 l Z a0 hw [] o0 h0 n0 Z0 ) e0 0 dE_ dE_ dE_ dE_ rfl (by rw [hml]; rfl) o0 [] [] rfl (lenOf pd_1 rfl) rfl (by show 2 * 0 + _ ≤ _; exact Nat.le_of_eq rfl) (hb hby d16_1)) fun T2 L2 v2 X2 hQ2 => ?_
  obtain ⟨rfl, N2, e2⟩ := hQ2
  replace N0 := Fr.app N0 N2
  show own_Go p e below _ (T2.setTop (mkF m 4 #[rv o0] []))
  refine own_by (B := T2.setTop (mkF m 6 #[rv o0] [oZ, (.ref o0)])) (fun t k => ?_) ?_
  · refine XS.aloadN X2.here hx rfl (hb hby d16_4) rfl rfl ?_
    refine XS.iconst X2.here hx rfl (hb hby d16_5) ?_
    exact k
  refine own_c2 (putF X2 hx hZ hown (host := "") (Or.inl (hW hw 107 rfl)) Via.refl e2 F_modCount_o0 E_o0 (Or.inl (hW hw 108 rfl)) (hW hw 89 rfl) (ty := .int) dE_ rfl rfl rfl rfl (hb hby d16_6)) fun T3 h3 X3 e3 W3 => ?_
  replace F_modCount_o0 := F_modCount_o0.same W3
  replace E_o0 := E_o0.wr W3
  replace F_elementData_o0 := F_elementData_o0.other W3 (Or.inr (sn0 hw))
  replace F_size_o0 := F_size_o0.other W3 (Or.inr (sn1 hw))
  replace K0 := K0.wr W3 (Or.inl (List.mem_of_getElem? (i := 0) rfl))
  replace Z0 := Nat.le_trans Z0 (Keep.of_wr W3).1
  replace N0 := Fr.snoc X3 N0 g_o0
  show own_Go p e below _ (T3.setTop (mkF m 9 #[rv o0] []))
  exact own_retV X3 Bd.notSynchronized hx Bd.returns (hb hby d16_9) (by
      try rw [show T3.heap = h3 from e3]
      exact ⟨rfl, N0, K0, E_o0, F_modCount_o0, F_elementData_o0, F_size_o0⟩) dE_ dE_

theorem d15_0 : dC9_ 0 (.aload_n 0, 1) := by decide +kernel
theorem d15_1 : dC9_ 1 (.invokespecial 1, 3) := by decide +kernel
theorem d15_4 : dC9_ 4 (.iload_n 1, 1) := by decide +kernel
theorem d15_5 : dC9_ 5 (.ifCond .le 14, 3) := by decide +kernel
theorem d15_19 : dC9_ 19 (.iload_n 1, 1) := by decide +kernel
theorem d15_20 : dC9_ 20 (.ifCond .ne 13, 3) := by decide +kernel
theorem d15_23 : dC9_ 23 (.aload_n 0, 1) := by decide +kernel
theorem d15_24 : dC9_ 24 (.getstatic 15, 3) := by decide +kernel
theorem d15_27 : dC9_ 27 (.putfield 9, 3) := by decide +kernel
theorem d15_30 : dC9_ 30 (.goto 30, 3) := by decide +kernel
theorem d15_60 : dC9_ 60 (.return_, 1) := by decide +kernel
theorem pn_15 : plainName "java/util/ArrayList" = true := by first | (simp [plainName, overriddenIn]; done) | decide +kernel
theorem ef_15 (m : MethodId) (x0 : Addr) (x1 : Int32) : entryFrame m #[(.ref x0), (.int x1)] 2 = mkF m 0 #[rv x0, iv x1] [] := by first | (simp [entryFrame, mkF, argsToLocals, Value.category]; done) | rfl
def Q15_5 (Z : State) (o0 : Addr) (i0 : Int32) (o1 : Addr) (i1 i2 : Int32) (h0 : Heap) (n0 : Nat) (v : Option Value) (h : Heap) (L : List Loc) : Prop := v = none ∧ Fr n0 L ∧ Keep h0 h [o0] ∧ Exa Z h o0 c1_ ∧ Fld Z h o0 c6_ "modCount" "I" oZ ∧ Fld Z h o0 c1_ "elementData" c5_ (.ref o1) ∧ Fld Z h o0 c1_ "size" "I" (.int i2)
set_option maxRecDepth 65536 in
set_option maxHeartbeats 40000000 in
theorem rm15_5 (l : Launch) (Z : State) (a0 : Array Value) (hw : oW_ a0 Z) (ws : List Jvm.Cond) (o0 : Addr) (i0 : Int32) (o1 : Addr) (i1 i2 : Int32) (h0 : Heap) (n0 : Nat) (Z0 : n0 ≤ h0.size) (g_o0 : n0 ≤ o0) (E_o0 : Exa Z h0 o0 c1_) (F_modCount_o0 : Fld Z h0 o0 c6_ "modCount" "I" (.int i1)) (F_elementData_o0 : Fld Z h0 o0 c1_ "elementData" c5_ .null) (F_size_o0 : Fld Z h0 o0 c1_ "size" "I" (.int i2)) (S_EMPTY_ELEMENTDATA : Sta Z Z.heap c1_ c16_ c5_ (.ref o1)) (OZ : Old Z n0 h0) (hp0 : ¬ ((0 : Int32) < i0)) (hp1 : i0 = (0 : Int32)) :
    MetFree l y9_ (head1 (Jvm.Cond.code y9_ jdk_38_method_1_code 2 none :: ws) (rM_ 3 0 0 36)) (fun a U => a = #[(.ref o0), (.int i0)] ∧ Z.Warmed39 U.vm ∧ U.heap = h0) (fun _ _ _ _ _ => True) (fun _ U o U' => ∃ v L, o = .returned v ∧ Q15_5 Z o0 i0 o1 i1 i2 h0 n0 v U'.heap L ∧ FrameEnd U o U' L (rM_ 3 0 0 36).cells (rM_ 3 0 0 36).slots) := by
  refine MetFree.of_bodySF (plainFor_of_name pn_15) hisR ?_
  intro p e s m args below meth c s₁ Bd hml0 hP hK
  obtain ⟨rfl, hZ, hh⟩ := hP
  have hx := Bd.exec
  have hby := Bd.bytes
  have hml : c.maxLocals = 2 := hml0
  have hown : s.vm.findClass c1_ = some m.cls := findClass_of_methodNamed Bd.named
  have hnm := (name_of_methodNamed Bd.named Bd.method).1
  have X0 : Stand p l e (rM_ 3 0 0 36) s m #[(.ref o0), (.int i0)] below meth c s₁ [] 0 0 := Stand.of_body Bd
  have e0 : s₁.heap = h0 := by rw [← hh, Bd.state]; rfl
  have N0 := Fr.nil n0
  have K0 : Keep h0 h0 [o0] := Keep.refl h0 _
  change own_Go p e below (own_Post s (Q15_5 Z o0 i0 o1 i1 i2 h0 n0) (rM_ 3 0 0 36).cells (rM_ 3 0 0 36).slots) (s₁.setTop (entryFrame m #[(.ref o0), (.int i0)] 2))
  refine own_by (fun t k => castTop (ef_15 m o0 i0) k) ?_
  show own_Go p e below _ (s₁.setTop (mkF m 0 #[rv o0, iv i0] []))
  refine own_by (B := s₁.setTop (mkF m 1 #[rv o0, iv i0] [(.ref o0)])) (fun t k => ?_) ?_
  · refine XS.aloadN X0.here hx rfl (hb hby d15_0) rfl rfl ?_
    exact k
  refine own_cc (own_callI X0 hx hZ (y := y8_) rfl hown (hW hw 94 rfl) (hW hw 95 rfl) (hW hw 98 rfl) (hW hw 99 rfl) dE_ (rm16_4 l Z a0 hw [] o0 i1 i2 h0 n0 Z0 g_o0 E_o0 F_modCount_o0 F_elementData_o0 F_size_o0) e0 0 dE_ dE_ dE_ dE_ rfl (by rw [hml]; rfl) o0 [] [] rfl (lenOf pd_1 rfl) rfl (by show 2 * 0 + _ ≤ _; exact Nat.le_of_eq rfl) (hb hby d15_1)) fun T2 L2 v2 X2 hQ2 => ?_
  obtain ⟨rfl, N2, K2, E_o0', F_modCount_o0', F_elementData_o0', F_size_o0'⟩ := hQ2
  replace N0 := Fr.app N0 N2
  replace E_o0 := E_o0.keep K2
  replace OZ := OZ.keep K2 (allS g_o0 all0)
  replace K0 := K0.trans K2 (allS (Or.inl (List.mem_of_getElem? (i := 0) rfl)) all0)
  replace Z0 := Nat.le_trans Z0 K2.1
  replace E_o0 := E_o0'
  have F_modCount_o0 := F_modCount_o0'
  have F_elementData_o0 := F_elementData_o0'
  have F_size_o0 := F_size_o0'
  show own_Go p e below _ (T2.setTop (mkF m 4 #[rv o0, iv i0] []))
  refine own_by (B := T2.setTop (mkF m 24 #[rv o0, iv i0] [(.ref o0)])) (fun t k => ?_) ?_
  · refine XS.iloadN X2.here hx rfl (hb hby d15_4) rfl ?_
    refine XS.ifYes X2.here hx rfl (pc0 := 5) (pc' := 19) rfl (hb hby d15_5) rfl ((if0 _ _).trans (flt hp0).2.2.2) dE_ dE_ ?_
    show Steps p.tables e below (T2.setTop (mkF m 19 #[rv o0, iv i0] [])) _
    refine XS.iloadN X2.here hx rfl (hb hby d15_19) rfl ?_
    refine XS.ifNo X2.here hx rfl (hb hby d15_20) rfl ((if0 _ _).trans (teq hp1).2) ?_
    show Steps p.tables e below (T2.setTop (mkF m 23 #[rv o0, iv i0] [])) _
    refine XS.aloadN X2.here hx rfl (hb hby d15_23) rfl rfl ?_
    exact k
  refine own_c1 (getS2 X2 hx hZ hown (host := "") (Or.inl (hW hw 109 rfl)) Via.refl rfl (S_EMPTY_ELEMENTDATA.ext OZ.2) rfl (hb hby d15_24)) fun T3 X3 e3 => ?_
  show own_Go p e below _ (T3.setTop (mkF m 27 #[rv o0, iv i0] [(.ref o1), (.ref o0)]))
  refine own_c2 (putF X3 hx hZ hown (host := "") (Or.inl (hW hw 110 rfl)) Via.refl e3 F_elementData_o0 E_o0 (Or.inl (hW hw 111 rfl)) (hW hw 89 rfl) (ty := (.array (.object c3_))) dE_ rfl rfl rfl rfl (hb hby d15_27)) fun T4 h4 X4 e4 W4 => ?_
  replace F_elementData_o0 := F_elementData_o0.same W4
  replace E_o0 := E_o0.wr W4
  replace F_modCount_o0 := F_modCount_o0.other W4 (Or.inr (sn2 hw))
  replace F_size_o0 := F_size_o0.other W4 (Or.inr (sn3 hw))
  replace OZ := OZ.wr W4 g_o0
  replace K0 := K0.wr W4 (Or.inl (List.mem_of_getElem? (i := 0) rfl))
  replace Z0 := Nat.le_trans Z0 (Keep.of_wr W4).1
  replace N0 := Fr.snoc X4 N0 g_o0
  show own_Go p e below _ (T4.setTop (mkF m 30 #[rv o0, iv i0] []))
  refine own_by (B := T4.setTop (mkF m 60 #[rv o0, iv i0] [])) (fun t k => ?_) ?_
  · refine XS.goto X4.here hx rfl (pc0 := 30) (pc' := 60) rfl (hb hby d15_30) dE_ dE_ ?_
    show Steps p.tables e below (T4.setTop (mkF m 60 #[rv o0, iv i0] [])) _
    exact k
  exact own_retV X4 Bd.notSynchronized hx Bd.returns (hb hby d15_60) (by
      try rw [show T4.heap = h4 from e4]
      exact ⟨rfl, N0, K0, E_o0, F_modCount_o0, F_elementData_o0, F_size_o0⟩) dE_ dE_

theorem d18_0 : dC10_ 0 (.iload_n 1, 1) := by decide +kernel
theorem d18_1 : dC10_ 1 (.ifCond .eq 51, 3) := by decide +kernel
theorem d18_52 : dC10_ 52 (.return_, 1) := by decide +kernel
theorem pn_18 : plainName "com/example/tidebook/tidebook/book/PriceLevels" = true := by first | (simp [plainName, overriddenIn]; done) | decide +kernel
theorem ef_18 (m : MethodId) (x0 : Addr) (x1 : Int32) (x2 : Addr) : entryFrame m #[(.ref x0), (.int x1), (.ref x2)] 3 = mkF m 0 #[rv x0, iv x1, rv x2] [] := by first | (simp [entryFrame, mkF, argsToLocals, Value.category]; done) | rfl
def Q18_6 (Z : State) (o0 : Addr) (i0 : Int32) (o1 : Addr) (h0 : Heap) (n0 : Nat) (v : Option Value) (h : Heap) (L : List Loc) : Prop := v = none ∧ Fr n0 L ∧ h = h0
set_option maxRecDepth 65536 in
set_option maxHeartbeats 40000000 in
theorem rm18_6 (l : Launch) (Z : State) (a0 : Array Value) (hw : oW_ a0 Z) (ws : List Jvm.Cond) (o0 : Addr) (i0 : Int32) (o1 : Addr) (h0 : Heap) (n0 : Nat) (Z0 : n0 ≤ h0.size) (hp0 : i0 = (0 : Int32)) :
    MetFree l y10_ (head1 (Jvm.Cond.code y10_ prog_3_method_7_code 3 none :: ws) (rM_ 0 0 0 0)) (fun a U => a = #[(.ref o0), (.int i0), (.ref o1)] ∧ Z.Warmed39 U.vm ∧ U.heap = h0) (fun _ _ _ _ _ => True) (fun _ U o U' => ∃ v L, o = .returned v ∧ Q18_6 Z o0 i0 o1 h0 n0 v U'.heap L ∧ FrameEnd U o U' L (rM_ 0 0 0 0).cells (rM_ 0 0 0 0).slots) := by
  refine MetFree.of_bodySF (plainFor_of_name pn_18) hisR ?_
  intro p e s m args below meth c s₁ Bd hml0 hP hK
  obtain ⟨rfl, hZ, hh⟩ := hP
  have hx := Bd.exec
  have hby := Bd.bytes
  have hml : c.maxLocals = 3 := hml0
  have hown : s.vm.findClass c0_ = some m.cls := findClass_of_methodNamed Bd.named
  have hnm := (name_of_methodNamed Bd.named Bd.method).1
  have X0 : Stand p l e (rM_ 0 0 0 0) s m #[(.ref o0), (.int i0), (.ref o1)] below meth c s₁ [] 0 0 := Stand.of_body Bd
  have e0 : s₁.heap = h0 := by rw [← hh, Bd.state]; rfl
  have N0 := Fr.nil n0
  change own_Go p e below (own_Post s (Q18_6 Z o0 i0 o1 h0 n0) (rM_ 0 0 0 0).cells (rM_ 0 0 0 0).slots) (s₁.setTop (entryFrame m #[(.ref o0), (.int i0), (.ref o1)] 3))
  refine own_by (fun t k => castTop (ef_18 m o0 i0 o1) k) ?_
  show own_Go p e below _ (s₁.setTop (mkF m 0 #[rv o0, iv i0, rv o1] []))
  refine own_by (B := s₁.setTop (mkF m 52 #[rv o0, iv i0, rv o1] [])) (fun t k => ?_) ?_
  · refine XS.iloadN X0.here hx rfl (hb hby d18_0) rfl ?_
    refine XS.ifYes X0.here hx rfl (pc0 := 1) (pc' := 52) rfl (hb hby d18_1) rfl ((if0 _ _).trans (teq hp0).1) dE_ dE_ ?_
    show Steps p.tables e below (s₁.setTop (mkF m 52 #[rv o0, iv i0, rv o1] [])) _
    exact k
  exact own_retV X0 Bd.notSynchronized hx Bd.returns (hb hby d18_52) (by
      try rw [show s₁.heap = h0 from e0]
      exact ⟨rfl, N0, rfl⟩) dE_ dE_

theorem d14_0 : dC11_ 0 (.new 60, 3) := by decide +kernel
theorem d14_3 : dC11_ 3 (.dup, 1) := by decide +kernel
theorem d14_4 : dC11_ 4 (.aload_n 0, 1) := by decide +kernel
theorem d14_5 : dC11_ 5 (.getfield 57, 3) := by decide +kernel
theorem d14_8 : dC11_ 8 (.invokespecial 62, 3) := by decide +kernel
theorem d14_11 : dC11_ 11 (.astore_n 1, 1) := by decide +kernel
theorem d14_12 : dC11_ 12 (.aload_n 0, 1) := by decide +kernel
theorem d14_13 : dC11_ 13 (.aload_n 0, 1) := by decide +kernel
theorem d14_14 : dC11_ 14 (.getfield 29, 3) := by decide +kernel
theorem d14_17 : dC11_ 17 (.aload_n 1, 1) := by decide +kernel
theorem d14_18 : dC11_ 18 (.invokevirtual 65, 3) := by decide +kernel
theorem d14_21 : dC11_ 21 (.aload_n 1, 1) := by decide +kernel
theorem d14_22 : dC11_ 22 (.areturn, 1) := by decide +kernel
theorem pn_14 : plainName "com/example/tidebook/tidebook/book/PriceLevels" = true := by first | (simp [plainName, overriddenIn]; done) | decide +kernel
theorem pd_6 : parseMethodDescriptor "(I)V" = some ⟨[.int], none⟩ := by decide +kernel
theorem pd_10 : parseMethodDescriptor "(ILjava/util/List;)V" = some ⟨[.int, (.object "java/util/List")], none⟩ := by decide +kernel
theorem ef_14 (m : MethodId) (x0 : Addr) : entryFrame m #[(.ref x0)] 2 = mkF m 0 #[rv x0, oU] [] := by first | (simp [entryFrame, mkF, argsToLocals, Value.category]; done) | rfl
def Q14_7 (Z : State) (o0 o1 : Addr) (i0 i4 : Int32) (h0 : Heap) (n0 : Nat) (v : Option Value) (h : Heap) (L : List Loc) : Prop := ∃ b1 : Addr, v = some (.ref b1) ∧ Fr n0 L ∧ Keep h0 h [] ∧ Exa Z h b1 c1_ ∧ Fld Z h b1 c6_ "modCount" "I" oZ ∧ Fld Z h b1 c1_ "elementData" c5_ (.ref o1) ∧ Fld Z h b1 c1_ "size" "I" oZ ∧ h0.size ≤ b1
set_option maxRecDepth 65536 in
set_option maxHeartbeats 40000000 in
theorem rm14_7 (l : Launch) (Z : State) (a0 : Array Value) (hw : oW_ a0 Z) (ws : List Jvm.Cond) (o0 o1 : Addr) (i0 i4 : Int32) (h0 : Heap) (n0 : Nat) (Z0 : n0 ≤ h0.size) (E_o0 : Exa Z h0 o0 c0_) (F_root_o0 : Fld Z h0 o0 c0_ "root" "I" (.int i0)) (F_count_o0 : Fld Z h0 o0 c0_ "count" "I" (.int i4)) (S_EMPTY_ELEMENTDATA : Sta Z Z.heap c1_ c16_ c5_ (.ref o1)) (OZ : Old Z n0 h0) (hp0 : ¬ ((0 : Int32) < i4)) (hp1 : i4 = (0 : Int32)) (hp2 : i0 = (0 : Int32)) :
    MetFree l y11_ (head1 (Jvm.Cond.code y11_ prog_3_method_6_code 2 (some (.object c7_)) :: ws) (rM_ 4 1 3 50)) (fun a U => a = #[(.ref o0)] ∧ Z.Warmed39 U.vm ∧ U.heap = h0) (fun _ _ _ _ _ => True) (fun _ U o U' => ∃ v L, o = .returned v ∧ Q14_7 Z o0 o1 i0 i4 h0 n0 v U'.heap L ∧ FrameEnd U o U' L (rM_ 4 1 3 50).cells (rM_ 4 1 3 50).slots) := by
  refine MetFree.of_bodySF (plainFor_of_name pn_14) hisR ?_
  intro p e s m args below meth c s₁ Bd hml0 hP hK
  obtain ⟨rfl, hZ, hh⟩ := hP
  have hx := Bd.exec
  have hby := Bd.bytes
  have hml : c.maxLocals = 2 := hml0
  have hown : s.vm.findClass c0_ = some m.cls := findClass_of_methodNamed Bd.named
  have hnm := (name_of_methodNamed Bd.named Bd.method).1
  have X0 : Stand p l e (rM_ 4 1 3 50) s m #[(.ref o0)] below meth c s₁ [] 0 0 := Stand.of_body Bd
  have e0 : s₁.heap = h0 := by rw [← hh, Bd.state]; rfl
  have N0 := Fr.nil n0
  have K0 : Keep h0 h0 [] := Keep.refl h0 _
  change own_Go p e below (own_Post s (Q14_7 Z o0 o1 i0 i4 h0 n0) (rM_ 4 1 3 50).cells (rM_ 4 1 3 50).slots) (s₁.setTop (entryFrame m #[(.ref o0)] 2))
  refine own_by (fun t k => castTop (ef_14 m o0) k) ?_
  show own_Go p e below _ (s₁.setTop (mkF m 0 #[rv o0, oU] []))
  obtain ⟨T1, h1, X1, e1, E1, A1, D1, -, st1⟩ := newO X0 hx hZ hown (hW hw 88 rfl) (hW hw 89 rfl) (hW hw 90 rfl) e0 (g := (mkF m 0 #[rv o0, oU] [])) rfl (hb hby d14_0) dE_ dE_
  obtain ⟨b1, g1⟩ : ∃ z, z = h0.size := ⟨_, rfl⟩
  rw [← g1] at A1 D1 st1
  have g_b1 : n0 ≤ b1 := Nat.le_trans Z0 (Nat.le_of_eq g1.symm)
  have sz_b1 : h0.size ≤ b1 := Nat.le_trans K0.1 (Nat.le_of_eq g1.symm)
  have ne_o0_b1 : o0 ≠ b1 := Nat.ne_of_lt (Nat.lt_of_lt_of_le E_o0.lt (Nat.le_of_eq g1.symm))
  replace E_o0 := E_o0.ext E1
  replace F_root_o0 := F_root_o0.ext E1
  replace F_count_o0 := F_count_o0.ext E1
  replace OZ := OZ.ext E1
  replace K0 := K0.ext E1
  replace Z0 := Nat.le_trans Z0 E1.1
  have E_b1 := A1
  have F_modCount_b1 : Fld Z h1 b1 c6_ "modCount" "I" oZ := D1 (Or.inl (hW hw 108 rfl)) (ty := .int) dE_
  have F_elementData_b1 : Fld Z h1 b1 c1_ "elementData" c5_ .null := D1 (Or.inl (hW hw 111 rfl)) (ty := (.array (.object c3_))) dE_
  have F_size_b1 : Fld Z h1 b1 c1_ "size" "I" oZ := D1 (Or.inl (hW hw 126 rfl)) (ty := .int) dE_
  refine own_by st1 ?_
  show own_Go p e below _ (T1.setTop (mkF m 3 #[rv o0, oU] [(.ref b1)]))
  refine own_by (B := T1.setTop (mkF m 5 #[rv o0, oU] [(.ref o0), (.ref b1), (.ref b1)])) (fun t k => ?_) ?_
  · refine XS.dup X1.here hx rfl (hb hby d14_3) rfl rfl ?_
    refine XS.aloadN X1.here hx rfl (hb hby d14_4) rfl rfl ?_
    exact k
  refine own_c1 (getF X1 hx hZ hown (host := "") (Or.inl (hW hw 46 rfl)) Via.refl e1 F_count_o0 rfl rfl (hb hby d14_5)) fun T2 X2 e2 => ?_
  show own_Go p e below _ (T2.setTop (mkF m 8 #[rv o0, oU] [(.int i4), (.ref b1), (.ref b1)]))
  refine own_cc (own_callI X2 hx hZ (y := y9_) rfl hown (hW hw 91 rfl) (hW hw 92 rfl) (hW hw 90 rfl) (hW hw 93 rfl) dE_ (rm15_5 l Z a0 hw [] b1 i4 o1 (0 : Int32) (0 : Int32) h1 n0 Z0 g_b1 E_b1 F_modCount_b1 F_elementData_b1 F_size_b1 S_EMPTY_ELEMENTDATA OZ hp0 hp1) e2 1 dE_ dE_ dE_ dE_ rfl (by rw [hml]; rfl) b1 [(.int i4)] [(.ref b1)] rfl (lenOf pd_6 rfl) rfl (by show 2 * 0 + _ ≤ _; exact Nat.le_of_eq rfl) (hb hby d14_8)) fun T4 L4 v4 X4 hQ4 => ?_
  obtain ⟨rfl, N4, K4, E_b1', F_modCount_b1', F_elementData_b1', F_size_b1'⟩ := hQ4
  replace N0 := Fr.app N0 N4
  replace E_o0 := E_o0.keep K4
  replace F_root_o0 := F_root_o0.keep K4 (ninS ne_o0_b1 nin0)
  replace F_count_o0 := F_count_o0.keep K4 (ninS ne_o0_b1 nin0)
  replace E_b1 := E_b1.keep K4
  replace OZ := OZ.keep K4 (allS g_b1 all0)
  replace K0 := K0.trans K4 (allS (Or.inr sz_b1) all0)
  replace Z0 := Nat.le_trans Z0 K4.1
  replace E_b1 := E_b1'
  have F_modCount_b1 := F_modCount_b1'
  have F_elementData_b1 := F_elementData_b1'
  have F_size_b1 := F_size_b1'
  show own_Go p e below _ (T4.setTop (mkF m 11 #[rv o0, oU] [(.ref b1)]))
  refine own_by (B := T4.setTop (mkF m 14 #[rv o0, rv b1] [(.ref o0), (.ref o0)])) (fun t k => ?_) ?_
  · refine XS.astoreN X4.here hx rfl (hb hby d14_11) rfl rfl (l' := #[rv o0, rv b1]) rfl ?_
    show Steps p.tables e below (T4.setTop (mkF m 12 #[rv o0, rv b1] [])) _
    refine XS.aloadN X4.here hx rfl (hb hby d14_12) rfl rfl ?_
    refine XS.aloadN X4.here hx rfl (hb hby d14_13) rfl rfl ?_
    exact k
  refine own_c1 (getF X4 hx hZ hown (host := "") (Or.inl (hW hw 23 rfl)) Via.refl rfl F_root_o0 rfl rfl (hb hby d14_14)) fun T5 X5 e5 => ?_
  show own_Go p e below _ (T5.setTop (mkF m 17 #[rv o0, rv b1] [(.int i0), (.ref o0)]))
  refine own_by (B := T5.setTop (mkF m 18 #[rv o0, rv b1] [(.ref b1), (.int i0), (.ref o0)])) (fun t k => ?_) ?_
  · refine XS.aloadN X5.here hx rfl (hb hby d14_17) rfl rfl ?_
    exact k
  refine own_cc (own_callP X5 hx hZ (y := y10_) hown (hW hw 112 rfl) (hW hw 113 rfl) (hW hw 3 rfl) (hW hw 115 rfl) (hW hw 114 rfl) (hW hw 2 rfl) dE_ (rm18_6 l Z a0 hw [] o0 i0 b1 T4.heap n0 Z0 hp2) e5 0 dE_ dE_ dE_ dE_ rfl (by rw [hml]; rfl) o0 E_o0 [(.int i0), (.ref b1)] [] rfl (lenOf pd_10 rfl) rfl (by show 2 * 0 + _ ≤ _; exact Nat.le_of_eq rfl) (hb hby d14_18)) fun T7 L7 v7 X7 hQ7 => ?_
  obtain ⟨rfl, N7, e7⟩ := hQ7
  replace N0 := Fr.app N0 N7
  show own_Go p e below _ (T7.setTop (mkF m 21 #[rv o0, rv b1] []))
  refine own_by (B := T7.setTop (mkF m 22 #[rv o0, rv b1] [(.ref b1)])) (fun t k => ?_) ?_
  · refine XS.aloadN X7.here hx rfl (hb hby d14_21) rfl rfl ?_
    exact k
  exact own_retR X7 Bd.notSynchronized hx Bd.returns rfl rfl rfl (hb hby d14_22) (by
      try rw [show T7.heap = T4.heap from e7]
      exact ⟨b1, rfl, N0, K0, E_b1, F_modCount_b1, F_elementData_b1, F_size_b1, sz_b1⟩) dE_ dE_

theorem d19_0 : dC12_ 0 (.aload_n 0, 1) := by decide +kernel
theorem d19_1 : dC12_ 1 (.getfield 48, 3) := by decide +kernel
theorem d19_4 : dC12_ 4 (.ireturn, 1) := by decide +kernel
theorem pn_19 : plainName "java/util/ArrayList" = true := by first | (simp [plainName, overriddenIn]; done) | decide +kernel
theorem ef_19 (m : MethodId) (x0 : Addr) : entryFrame m #[(.ref x0)] 1 = mkF m 0 #[rv x0] [] := by first | (simp [entryFrame, mkF, argsToLocals, Value.category]; done) | rfl
def Q19_8 (Z : State) (o0 : Addr) (i1 : Int32) (h0 : Heap) (n0 : Nat) (v : Option Value) (h : Heap) (L : List Loc) : Prop := v = some (.int i1) ∧ Fr n0 L ∧ h = h0
set_option maxRecDepth 65536 in
set_option maxHeartbeats 40000000 in
theorem rm19_8 (l : Launch) (Z : State) (a0 : Array Value) (hw : oW_ a0 Z) (ws : List Jvm.Cond) (o0 : Addr) (i1 : Int32) (h0 : Heap) (n0 : Nat) (Z0 : n0 ≤ h0.size) (F_size_o0 : Fld Z h0 o0 c1_ "size" "I" (.int i1)) :
    MetFree l y12_ (head1 (Jvm.Cond.code y12_ jdk_38_method_8_code 1 (some .int) :: ws) (rM_ 0 0 0 0)) (fun a U => a = #[(.ref o0)] ∧ Z.Warmed39 U.vm ∧ U.heap = h0) (fun _ _ _ _ _ => True) (fun _ U o U' => ∃ v L, o = .returned v ∧ Q19_8 Z o0 i1 h0 n0 v U'.heap L ∧ FrameEnd U o U' L (rM_ 0 0 0 0).cells (rM_ 0 0 0 0).slots) := by
  refine MetFree.of_bodySF (plainFor_of_name pn_19) hisR ?_
  intro p e s m args below meth c s₁ Bd hml0 hP hK
  obtain ⟨rfl, hZ, hh⟩ := hP
  have hx := Bd.exec
  have hby := Bd.bytes
  have hml : c.maxLocals = 1 := hml0
  have hown : s.vm.findClass c1_ = some m.cls := findClass_of_methodNamed Bd.named
  have hnm := (name_of_methodNamed Bd.named Bd.method).1
  have X0 : Stand p l e (rM_ 0 0 0 0) s m #[(.ref o0)] below meth c s₁ [] 0 0 := Stand.of_body Bd
  have e0 : s₁.heap = h0 := by rw [← hh, Bd.state]; rfl
  have N0 := Fr.nil n0
  change own_Go p e below (own_Post s (Q19_8 Z o0 i1 h0 n0) (rM_ 0 0 0 0).cells (rM_ 0 0 0 0).slots) (s₁.setTop (entryFrame m #[(.ref o0)] 1))
  refine own_by (fun t k => castTop (ef_19 m o0) k) ?_
  show own_Go p e below _ (s₁.setTop (mkF m 0 #[rv o0] []))
  refine own_by (B := s₁.setTop (mkF m 1 #[rv o0] [(.ref o0)])) (fun t k => ?_) ?_
  · refine XS.aloadN X0.here hx rfl (hb hby d19_0) rfl rfl ?_
    exact k
  refine own_c1 (getF X0 hx hZ hown (host := "") (Or.inl (hW hw 125 rfl)) Via.refl e0 F_size_o0 rfl rfl (hb hby d19_1)) fun T1 X1 e1 => ?_
  show own_Go p e below _ (T1.setTop (mkF m 4 #[rv o0] [(.int i1)]))
  exact own_retI X1 Bd.notSynchronized hx Bd.returns (hb hby d19_4) (by
      try rw [show T1.heap = h0 from e1]
      exact ⟨rfl, N0, rfl⟩) dE_ dE_

theorem d5_0 : dC13_ 0 (.aload_n 0, 1) := by decide +kernel
theorem d5_1 : dC13_ 1 (.getfield 39, 3) := by decide +kernel
theorem d5_4 : dC13_ 4 (.ifCond .eq 23, 3) := by decide +kernel
theorem d5_27 : dC13_ 27 (.aload_n 0, 1) := by decide +kernel
theorem d5_28 : dC13_ 28 (.dup, 1) := by decide +kernel
theorem d5_29 : dC13_ 29 (.getfield 36, 3) := by decide +kernel
theorem d5_32 : dC13_ 32 (.dup_x1, 1) := by decide +kernel
theorem d5_33 : dC13_ 33 (.iconst 1, 1) := by decide +kernel
theorem d5_34 : dC13_ 34 (.iadd, 1) := by decide +kernel
theorem d5_35 : dC13_ 35 (.putfield 36, 3) := by decide +kernel
theorem d5_38 : dC13_ 38 (.istore 5, 2) := by decide +kernel
theorem d5_40 : dC13_ 40 (.aload_n 0, 1) := by decide +kernel
theorem d5_41 : dC13_ 41 (.getfield 11, 3) := by decide +kernel
theorem d5_44 : dC13_ 44 (.iload 5, 2) := by decide +kernel
theorem d5_46 : dC13_ 46 (.lload_n 1, 1) := by decide +kernel
theorem d5_47 : dC13_ 47 (.lastore, 1) := by decide +kernel
theorem d5_48 : dC13_ 48 (.aload_n 0, 1) := by decide +kernel
theorem d5_49 : dC13_ 49 (.getfield 15, 3) := by decide +kernel
theorem d5_52 : dC13_ 52 (.iload 5, 2) := by decide +kernel
theorem d5_54 : dC13_ 54 (.lload_n 3, 1) := by decide +kernel
theorem d5_55 : dC13_ 55 (.lastore, 1) := by decide +kernel
theorem d5_56 : dC13_ 56 (.aload_n 0, 1) := by decide +kernel
theorem d5_57 : dC13_ 57 (.getfield 18, 3) := by decide +kernel
theorem d5_60 : dC13_ 60 (.iload 5, 2) := by decide +kernel
theorem d5_62 : dC13_ 62 (.iconst 0, 1) := by decide +kernel
theorem d5_63 : dC13_ 63 (.iastore, 1) := by decide +kernel
theorem d5_64 : dC13_ 64 (.aload_n 0, 1) := by decide +kernel
theorem d5_65 : dC13_ 65 (.getfield 22, 3) := by decide +kernel
theorem d5_68 : dC13_ 68 (.iload 5, 2) := by decide +kernel
theorem d5_70 : dC13_ 70 (.iconst 0, 1) := by decide +kernel
theorem d5_71 : dC13_ 71 (.iastore, 1) := by decide +kernel
theorem d5_72 : dC13_ 72 (.aload_n 0, 1) := by decide +kernel
theorem d5_73 : dC13_ 73 (.getfield 25, 3) := by decide +kernel
theorem d5_76 : dC13_ 76 (.iload 5, 2) := by decide +kernel
theorem d5_78 : dC13_ 78 (.iconst 1, 1) := by decide +kernel
theorem d5_79 : dC13_ 79 (.bastore, 1) := by decide +kernel
theorem d5_80 : dC13_ 80 (.aload_n 0, 1) := by decide +kernel
theorem d5_81 : dC13_ 81 (.dup, 1) := by decide +kernel
theorem d5_82 : dC13_ 82 (.getfield 57, 3) := by decide +kernel
theorem d5_85 : dC13_ 85 (.iconst 1, 1) := by decide +kernel
theorem d5_86 : dC13_ 86 (.iadd, 1) := by decide +kernel
theorem d5_87 : dC13_ 87 (.putfield 57, 3) := by decide +kernel
theorem d5_90 : dC13_ 90 (.iload 5, 2) := by decide +kernel
theorem d5_92 : dC13_ 92 (.ireturn, 1) := by decide +kernel
theorem pn_5 : plainName "com/example/tidebook/tidebook/book/PriceLevels" = true := by first | (simp [plainName, overriddenIn]; done) | decide +kernel
theorem ef_5 (m : MethodId) (x0 : Addr) (x1 x2 : Int64) : entryFrame m #[(.ref x0), (.long x1), (.long x2)] 6 = mkF m 0 (lA1_ x0 x1 x2) [] := by first | (simp [entryFrame, mkF, argsToLocals, Value.category]; done) | rfl
def Q5_9 (Z : State) (o0 : Addr) (j0 j1 : Int64) (o2 o3 : Addr) (o4 o5 o6 : Addr) (i0 i1 : Int32) (i2 i3 i4 : Int32) (k0 : ClassId) (j2 j3 j4 : Int64) (k1 : ClassId) (j5 j6 j7 : Int64) (k2 : ClassId) (i5 i6 i7 : Int32) (k3 : ClassId) (i8 i9 i10 : Int32) (k4 : ClassId) (i11 i12 i13 : Int32) (h0 : Heap) (n0 : Nat) (v : Option Value) (h : Heap) (L : List Loc) : Prop := v = some (.int (1 : Int32)) ∧ Fr n0 L ∧ Keep h0 h [o0, o2, o3, o4, o5, o6] ∧ Exa Z h o0 c0_ ∧ Fld Z h o0 c0_ "prices" "[J" (.ref o2) ∧ Fld Z h o0 c0_ "sizes" "[J" (.ref o3) ∧ Fld Z h o0 c0_ "left" "[I" (.ref o4) ∧ Fld Z h o0 c0_ "right" "[I" (.ref o5) ∧ Fld Z h o0 c0_ "heights" "[B" (.ref o6) ∧ Fld Z h o0 c0_ "root" "I" (.int i0) ∧ Fld Z h o0 c0_ "best" "I" (.int i1) ∧ Fld Z h o0 c0_ "unused" "I" (.int (2 : Int32)) ∧ Fld Z h o0 c0_ "free" "I" (.int i2) ∧ Fld Z h o0 c0_ "count" "I" (.int (i3 + (1 : Int32))) ∧ Fld Z h o0 c0_ "highestFirst" "Z" (.int i4) ∧ Arv Z h o2 k0 .long (8 : Int32) [(.long j2), (.long j0), (.long j4)] oY ∧ Arv Z h o3 k1 .long (8 : Int32) [(.long j5), (.long j1), (.long j7)] oY ∧ Arv Z h o4 k2 .int (8 : Int32) [(.int i5), oZ, (.int i7)] oZ ∧ Arv Z h o5 k3 .int (8 : Int32) [(.int i8), oZ, (.int i10)] oZ ∧ Arv Z h o6 k4 .byte (8 : Int32) [(.int i11), (.int (1 : Int32)), (.int i13)] oZ
set_option maxRecDepth 65536 in
set_option maxHeartbeats 40000000 in
theorem rm5_9 (l : Launch) (Z : State) (a0 : Array Value) (hw : oW_ a0 Z) (ws : List Jvm.Cond) (o0 : Addr) (j0 j1 : Int64) (o2 o3 : Addr) (o4 o5 o6 : Addr) (i0 i1 : Int32) (i2 i3 i4 : Int32) (k0 : ClassId) (j2 j3 j4 : Int64) (k1 : ClassId) (j5 j6 j7 : Int64) (k2 : ClassId) (i5 i6 i7 : Int32) (k3 : ClassId) (i8 i9 i10 : Int32) (k4 : ClassId) (i11 i12 i13 : Int32) (h0 : Heap) (n0 : Nat) (Z0 : n0 ≤ h0.size) (E_o0 : Exa Z h0 o0 c0_) (F_prices_o0 : Fld Z h0 o0 c0_ "prices" "[J" (.ref o2)) (F_sizes_o0 : Fld Z h0 o0 c0_ "sizes" "[J" (.ref o3)) (F_left_o0 : Fld Z h0 o0 c0_ "left" "[I" (.ref o4)) (F_right_o0 : Fld Z h0 o0 c0_ "right" "[I" (.ref o5)) (F_heights_o0 : Fld Z h0 o0 c0_ "heights" "[B" (.ref o6)) (F_root_o0 : Fld Z h0 o0 c0_ "root" "I" (.int i0)) (F_best_o0 : Fld Z h0 o0 c0_ "best" "I" (.int i1)) (F_unused_o0 : Fld Z h0 o0 c0_ "unused" "I" (.int (1 : Int32))) (F_free_o0 : Fld Z h0 o0 c0_ "free" "I" (.int i2)) (F_count_o0 : Fld Z h0 o0 c0_ "count" "I" (.int i3)) (F_highestFirst_o0 : Fld Z h0 o0 c0_ "highestFirst" "Z" (.int i4)) (g_o0 : n0 ≤ o0) (V_o2 : Arv Z h0 o2 k0 .long (8 : Int32) [(.long j2), (.long j3), (.long j4)] oY) (g_o2 : n0 ≤ o2) (V_o3 : Arv Z h0 o3 k1 .long (8 : Int32) [(.long j5), (.long j6), (.long j7)] oY) (g_o3 : n0 ≤ o3) (V_o4 : Arv Z h0 o4 k2 .int (8 : Int32) [(.int i5), (.int i6), (.int i7)] oZ) (g_o4 : n0 ≤ o4) (V_o5 : Arv Z h0 o5 k3 .int (8 : Int32) [(.int i8), (.int i9), (.int i10)] oZ) (g_o5 : n0 ≤ o5) (V_o6 : Arv Z h0 o6 k4 .byte (8 : Int32) [(.int i11), (.int i12), (.int i13)] oZ) (g_o6 : n0 ≤ o6) (hp0 : i2 = (0 : Int32)) (ne_o3_o2 : o3 ≠ o2) (ne_o4_o2 : o4 ≠ o2) (ne_o5_o2 : o5 ≠ o2) (ne_o6_o2 : o6 ≠ o2) (ne_o4_o3 : o4 ≠ o3) (ne_o5_o3 : o5 ≠ o3) (ne_o6_o3 : o6 ≠ o3) (ne_o5_o4 : o5 ≠ o4) (ne_o6_o4 : o6 ≠ o4) (ne_o6_o5 : o6 ≠ o5) :
    MetFree l y13_ (head1 (Jvm.Cond.code y13_ prog_3_method_14_code 6 (some .int) :: ws) (rM_ 0 0 0 0)) (fun a U => a = #[(.ref o0), (.long j0), (.long j1)] ∧ Z.Warmed39 U.vm ∧ U.heap = h0) (fun _ _ _ _ _ => True) (fun _ U o U' => ∃ v L, o = .returned v ∧ Q5_9 Z o0 j0 j1 o2 o3 o4 o5 o6 i0 i1 i2 i3 i4 k0 j2 j3 j4 k1 j5 j6 j7 k2 i5 i6 i7 k3 i8 i9 i10 k4 i11 i12 i13 h0 n0 v U'.heap L ∧ FrameEnd U o U' L (rM_ 0 0 0 0).cells (rM_ 0 0 0 0).slots) := by
  refine MetFree.of_bodySF (plainFor_of_name pn_5) hisR ?_
  intro p e s m args below meth c s₁ Bd hml0 hP hK
  obtain ⟨rfl, hZ, hh⟩ := hP
  have hx := Bd.exec
  have hby := Bd.bytes
  have hml : c.maxLocals = 6 := hml0
  have hown : s.vm.findClass c0_ = some m.cls := findClass_of_methodNamed Bd.named
  have hnm := (name_of_methodNamed Bd.named Bd.method).1
  have X0 : Stand p l e (rM_ 0 0 0 0) s m #[(.ref o0), (.long j0), (.long j1)] below meth c s₁ [] 0 0 := Stand.of_body Bd
  have e0 : s₁.heap = h0 := by rw [← hh, Bd.state]; rfl
  have N0 := Fr.nil n0
  have K0 : Keep h0 h0 [o0, o2, o3, o4, o5, o6] := Keep.refl h0 _
  change own_Go p e below (own_Post s (Q5_9 Z o0 j0 j1 o2 o3 o4 o5 o6 i0 i1 i2 i3 i4 k0 j2 j3 j4 k1 j5 j6 j7 k2 i5 i6 i7 k3 i8 i9 i10 k4 i11 i12 i13 h0 n0) (rM_ 0 0 0 0).cells (rM_ 0 0 0 0).slots) (s₁.setTop (entryFrame m #[(.ref o0), (.long j0), (.long j1)] 6))
  refine own_by (fun t k => castTop (ef_5 m o0 j0 j1) k) ?_
  show own_Go p e below _ (s₁.setTop (mkF m 0 (lA1_ o0 j0 j1) []))
  refine own_by (B := s₁.setTop (mkF m 1 (lA1_ o0 j0 j1) [(.ref o0)])) (fun t k => ?_) ?_
  · refine XS.aloadN X0.here hx rfl (hb hby d5_0) rfl rfl ?_
    exact k
  refine own_c1 (getF X0 hx hZ hown (host := "") (Or.inl (hW hw 29 rfl)) Via.refl e0 F_free_o0 rfl rfl (hb hby d5_1)) fun T1 X1 e1 => ?_
  show own_Go p e below _ (T1.setTop (mkF m 4 (lA1_ o0 j0 j1) [(.int i2)]))
  refine own_by (B := T1.setTop (mkF m 29 (lA1_ o0 j0 j1) [(.ref o0), (.ref o0)])) (fun t k => ?_) ?_
  · refine XS.ifYes X1.here hx rfl (pc0 := 4) (pc' := 27) rfl (hb hby d5_4) rfl ((if0 _ _).trans (teq hp0).1) dE_ dE_ ?_
    show Steps p.tables e below (T1.setTop (mkF m 27 (lA1_ o0 j0 j1) [])) _
    refine XS.aloadN X1.here hx rfl (hb hby d5_27) rfl rfl ?_
    refine XS.dup X1.here hx rfl (hb hby d5_28) rfl rfl ?_
    exact k
  refine own_c1 (getF X1 hx hZ hown (host := "") (Or.inl (hW hw 27 rfl)) Via.refl e1 F_unused_o0 rfl rfl (hb hby d5_29)) fun T2 X2 e2 => ?_
  show own_Go p e below _ (T2.setTop (mkF m 32 (lA1_ o0 j0 j1) [(.int (1 : Int32)), (.ref o0)]))
  refine own_by (B := T2.setTop (mkF m 35 (lA1_ o0 j0 j1) [(.int (2 : Int32)), (.ref o0), (.int (1 : Int32))])) (fun t k => ?_) ?_
  · refine XS.dupX1 X2.here hx rfl (hb hby d5_32) rfl rfl rfl ?_
    show Steps p.tables e below (T2.setTop (mkF m 33 (lA1_ o0 j0 j1) [(.int (1 : Int32)), (.ref o0), (.int (1 : Int32))])) _
    refine XS.iconst X2.here hx rfl (hb hby d5_33) ?_
    refine XS.iadd X2.here hx rfl (hb hby d5_34) rfl ?_
    show Steps p.tables e below (T2.setTop (mkF m 35 (lA1_ o0 j0 j1) [(.int (2 : Int32)), (.ref o0), (.int (1 : Int32))])) _
    exact k
  refine own_c2 (putF X2 hx hZ hown (host := "") (Or.inl (hW hw 27 rfl)) Via.refl e2 F_unused_o0 E_o0 (Or.inl (hW hw 28 rfl)) (hW hw 2 rfl) (ty := .int) dE_ rfl rfl rfl rfl (hb hby d5_35)) fun T3 h3 X3 e3 W3 => ?_
  replace F_unused_o0 := F_unused_o0.same W3
  have nx1 : o2 ≠ o0 := (Ne.symm (own_nev E_o0 (hW hw 2 rfl) V_o2))
  have nx2 : o3 ≠ o0 := (Ne.symm (own_nev E_o0 (hW hw 2 rfl) V_o3))
  have nx3 : o4 ≠ o0 := (Ne.symm (own_nev E_o0 (hW hw 2 rfl) V_o4))
  have nx4 : o5 ≠ o0 := (Ne.symm (own_nev E_o0 (hW hw 2 rfl) V_o5))
  have nx5 : o6 ≠ o0 := (Ne.symm (own_nev E_o0 (hW hw 2 rfl) V_o6))
  replace E_o0 := E_o0.wr W3
  replace F_prices_o0 := F_prices_o0.other W3 (Or.inr (sn4 hw))
  replace F_sizes_o0 := F_sizes_o0.other W3 (Or.inr (sn5 hw))
  replace F_left_o0 := F_left_o0.other W3 (Or.inr (sn6 hw))
  replace F_right_o0 := F_right_o0.other W3 (Or.inr (sn7 hw))
  replace F_heights_o0 := F_heights_o0.other W3 (Or.inr (sn8 hw))
  replace F_root_o0 := F_root_o0.other W3 (Or.inr (sn9 hw))
  replace F_best_o0 := F_best_o0.other W3 (Or.inr (sn10 hw))
  replace F_free_o0 := F_free_o0.other W3 (Or.inr (sn11 hw))
  replace F_count_o0 := F_count_o0.other W3 (Or.inr (sn12 hw))
  replace F_highestFirst_o0 := F_highestFirst_o0.other W3 (Or.inr (sn13 hw))
  replace V_o2 := V_o2.other W3 nx1
  replace V_o3 := V_o3.other W3 nx2
  replace V_o4 := V_o4.other W3 nx3
  replace V_o5 := V_o5.other W3 nx4
  replace V_o6 := V_o6.other W3 nx5
  replace K0 := K0.wr W3 (Or.inl (List.mem_of_getElem? (i := 0) rfl))
  replace Z0 := Nat.le_trans Z0 (Keep.of_wr W3).1
  replace N0 := Fr.snoc X3 N0 g_o0
  show own_Go p e below _ (T3.setTop (mkF m 38 (lA1_ o0 j0 j1) [(.int (1 : Int32))]))
  refine own_by (B := T3.setTop (mkF m 41 (lA2_ o0 j0 j1 (1 : Int32)) [(.ref o0)])) (fun t k => ?_) ?_
  · refine XS.istore X3.here hx rfl (hb hby d5_38) rfl (l' := (lA2_ o0 j0 j1 (1 : Int32))) rfl ?_
    show Steps p.tables e below (T3.setTop (mkF m 40 (lA2_ o0 j0 j1 (1 : Int32)) [])) _
    refine XS.aloadN X3.here hx rfl (hb hby d5_40) rfl rfl ?_
    exact k
  refine own_c1 (getF X3 hx hZ hown (host := "") (Or.inl (hW hw 11 rfl)) Via.refl e3 F_prices_o0 rfl rfl (hb hby d5_41)) fun T4 X4 e4 => ?_
  show own_Go p e below _ (T4.setTop (mkF m 44 (lA2_ o0 j0 j1 (1 : Int32)) [(.ref o2)]))
  refine own_by (B := T4.setTop (mkF m 47 (lA2_ o0 j0 j1 (1 : Int32)) [(.long j0), (.int (1 : Int32)), (.ref o2)])) (fun t k => ?_) ?_
  · refine XS.iload X4.here hx rfl (hb hby d5_44) rfl ?_
    refine XS.lloadN X4.here hx rfl (hb hby d5_46) rfl ?_
    exact k
  obtain ⟨cl5, Ar5, q5, S5, N5, H5, G5⟩ := V_o2
  have hin5 : ¬ ((1 : Int32) < 0 ∨ cl5.slots.size ≤ ((1 : Int32)).toNatClampNeg) := inb_of S5 ⟨by decide, by decide⟩
  refine own_c2 (stJ X4 hx hZ e4 Ar5 (j := (1 : Int32)) hin5 rfl rfl (hb hby d5_47)) fun T5 h5 X5 e5 W5 => ?_
  replace V_o2 : Arv Z h5 o2 k0 .long (8 : Int32) [(.long j2), (.long j0), (.long j4)] oY := Arv.set Ar5 q5 S5 N5 H5 G5 rfl W5 1 rfl nB_
  replace E_o0 := E_o0.wr W5
  replace F_prices_o0 := F_prices_o0.other W5 (Or.inl (Ne.symm nx1))
  replace F_sizes_o0 := F_sizes_o0.other W5 (Or.inl (Ne.symm nx1))
  replace F_left_o0 := F_left_o0.other W5 (Or.inl (Ne.symm nx1))
  replace F_right_o0 := F_right_o0.other W5 (Or.inl (Ne.symm nx1))
  replace F_heights_o0 := F_heights_o0.other W5 (Or.inl (Ne.symm nx1))
  replace F_root_o0 := F_root_o0.other W5 (Or.inl (Ne.symm nx1))
  replace F_best_o0 := F_best_o0.other W5 (Or.inl (Ne.symm nx1))
  replace F_unused_o0 := F_unused_o0.other W5 (Or.inl (Ne.symm nx1))
  replace F_free_o0 := F_free_o0.other W5 (Or.inl (Ne.symm nx1))
  replace F_count_o0 := F_count_o0.other W5 (Or.inl (Ne.symm nx1))
  replace F_highestFirst_o0 := F_highestFirst_o0.other W5 (Or.inl (Ne.symm nx1))
  replace V_o3 := V_o3.other W5 ne_o3_o2
  replace V_o4 := V_o4.other W5 ne_o4_o2
  replace V_o5 := V_o5.other W5 ne_o5_o2
  replace V_o6 := V_o6.other W5 ne_o6_o2
  replace K0 := K0.wr W5 (Or.inl (List.mem_of_getElem? (i := 1) rfl))
  replace Z0 := Nat.le_trans Z0 (Keep.of_wr W5).1
  replace N0 := Fr.snoc X5 N0 g_o2
  show own_Go p e below _ (T5.setTop (mkF m 48 (lA2_ o0 j0 j1 (1 : Int32)) []))
  refine own_by (B := T5.setTop (mkF m 49 (lA2_ o0 j0 j1 (1 : Int32)) [(.ref o0)])) (fun t k => ?_) ?_
  · refine XS.aloadN X5.here hx rfl (hb hby d5_48) rfl rfl ?_
    exact k
  refine own_c1 (getF X5 hx hZ hown (host := "") (Or.inl (hW hw 13 rfl)) Via.refl e5 F_sizes_o0 rfl rfl (hb hby d5_49)) fun T6 X6 e6 => ?_
  show own_Go p e below _ (T6.setTop (mkF m 52 (lA2_ o0 j0 j1 (1 : Int32)) [(.ref o3)]))
  refine own_by (B := T6.setTop (mkF m 55 (lA2_ o0 j0 j1 (1 : Int32)) [(.long j1), (.int (1 : Int32)), (.ref o3)])) (fun t k => ?_) ?_
  · refine XS.iload X6.here hx rfl (hb hby d5_52) rfl ?_
    refine XS.lloadN X6.here hx rfl (hb hby d5_54) rfl ?_
    exact k
  obtain ⟨cl7, Ar7, q7, S7, N7, H7, G7⟩ := V_o3
  have hin7 : ¬ ((1 : Int32) < 0 ∨ cl7.slots.size ≤ ((1 : Int32)).toNatClampNeg) := inb_of S7 ⟨by decide, by decide⟩
  refine own_c2 (stJ X6 hx hZ e6 Ar7 (j := (1 : Int32)) hin7 rfl rfl (hb hby d5_55)) fun T7 h7 X7 e7 W7 => ?_
  replace V_o3 : Arv Z h7 o3 k1 .long (8 : Int32) [(.long j5), (.long j1), (.long j7)] oY := Arv.set Ar7 q7 S7 N7 H7 G7 rfl W7 1 rfl nB_
  replace E_o0 := E_o0.wr W7
  replace F_prices_o0 := F_prices_o0.other W7 (Or.inl (Ne.symm nx2))
  replace F_sizes_o0 := F_sizes_o0.other W7 (Or.inl (Ne.symm nx2))
  replace F_left_o0 := F_left_o0.other W7 (Or.inl (Ne.symm nx2))
  replace F_right_o0 := F_right_o0.other W7 (Or.inl (Ne.symm nx2))
  replace F_heights_o0 := F_heights_o0.other W7 (Or.inl (Ne.symm nx2))
  replace F_root_o0 := F_root_o0.other W7 (Or.inl (Ne.symm nx2))
  replace F_best_o0 := F_best_o0.other W7 (Or.inl (Ne.symm nx2))
  replace F_unused_o0 := F_unused_o0.other W7 (Or.inl (Ne.symm nx2))
  replace F_free_o0 := F_free_o0.other W7 (Or.inl (Ne.symm nx2))
  replace F_count_o0 := F_count_o0.other W7 (Or.inl (Ne.symm nx2))
  replace F_highestFirst_o0 := F_highestFirst_o0.other W7 (Or.inl (Ne.symm nx2))
  replace V_o2 := V_o2.other W7 (Ne.symm ne_o3_o2)
  replace V_o4 := V_o4.other W7 ne_o4_o3
  replace V_o5 := V_o5.other W7 ne_o5_o3
  replace V_o6 := V_o6.other W7 ne_o6_o3
  replace K0 := K0.wr W7 (Or.inl (List.mem_of_getElem? (i := 2) rfl))
  replace Z0 := Nat.le_trans Z0 (Keep.of_wr W7).1
  replace N0 := Fr.snoc X7 N0 g_o3
  show own_Go p e below _ (T7.setTop (mkF m 56 (lA2_ o0 j0 j1 (1 : Int32)) []))
  refine own_by (B := T7.setTop (mkF m 57 (lA2_ o0 j0 j1 (1 : Int32)) [(.ref o0)])) (fun t k => ?_) ?_
  · refine XS.aloadN X7.here hx rfl (hb hby d5_56) rfl rfl ?_
    exact k
  refine own_c1 (getF X7 hx hZ hown (host := "") (Or.inl (hW hw 16 rfl)) Via.refl e7 F_left_o0 rfl rfl (hb hby d5_57)) fun T8 X8 e8 => ?_
  show own_Go p e below _ (T8.setTop (mkF m 60 (lA2_ o0 j0 j1 (1 : Int32)) [(.ref o4)]))
  refine own_by (B := T8.setTop (mkF m 63 (lA2_ o0 j0 j1 (1 : Int32)) [oZ, (.int (1 : Int32)), (.ref o4)])) (fun t k => ?_) ?_
  · refine XS.iload X8.here hx rfl (hb hby d5_60) rfl ?_
    refine XS.iconst X8.here hx rfl (hb hby d5_62) ?_
    exact k
  obtain ⟨cl9, Ar9, q9, S9, N9, H9, G9⟩ := V_o4
  have hin9 : ¬ ((1 : Int32) < 0 ∨ cl9.slots.size ≤ ((1 : Int32)).toNatClampNeg) := inb_of S9 ⟨by decide, by decide⟩
  refine own_c2 (stI X8 hx hZ e8 Ar9 (j := (1 : Int32)) hin9 rfl rfl (hb hby d5_63)) fun T9 h9 X9 e9 W9 => ?_
  replace V_o4 : Arv Z h9 o4 k2 .int (8 : Int32) [(.int i5), oZ, (.int i7)] oZ := Arv.set Ar9 q9 S9 N9 H9 G9 rfl W9 1 rfl nB_
  replace E_o0 := E_o0.wr W9
  replace F_prices_o0 := F_prices_o0.other W9 (Or.inl (Ne.symm nx3))
  replace F_sizes_o0 := F_sizes_o0.other W9 (Or.inl (Ne.symm nx3))
  replace F_left_o0 := F_left_o0.other W9 (Or.inl (Ne.symm nx3))
  replace F_right_o0 := F_right_o0.other W9 (Or.inl (Ne.symm nx3))
  replace F_heights_o0 := F_heights_o0.other W9 (Or.inl (Ne.symm nx3))
  replace F_root_o0 := F_root_o0.other W9 (Or.inl (Ne.symm nx3))
  replace F_best_o0 := F_best_o0.other W9 (Or.inl (Ne.symm nx3))
  replace F_unused_o0 := F_unused_o0.other W9 (Or.inl (Ne.symm nx3))
  replace F_free_o0 := F_free_o0.other W9 (Or.inl (Ne.symm nx3))
  replace F_count_o0 := F_count_o0.other W9 (Or.inl (Ne.symm nx3))
  replace F_highestFirst_o0 := F_highestFirst_o0.other W9 (Or.inl (Ne.symm nx3))
  replace V_o2 := V_o2.other W9 (Ne.symm ne_o4_o2)
  replace V_o3 := V_o3.other W9 (Ne.symm ne_o4_o3)
  replace V_o5 := V_o5.other W9 ne_o5_o4
  replace V_o6 := V_o6.other W9 ne_o6_o4
  replace K0 := K0.wr W9 (Or.inl (List.mem_of_getElem? (i := 3) rfl))
  replace Z0 := Nat.le_trans Z0 (Keep.of_wr W9).1
  replace N0 := Fr.snoc X9 N0 g_o4
  show own_Go p e below _ (T9.setTop (mkF m 64 (lA2_ o0 j0 j1 (1 : Int32)) []))
  refine own_by (B := T9.setTop (mkF m 65 (lA2_ o0 j0 j1 (1 : Int32)) [(.ref o0)])) (fun t k => ?_) ?_
  · refine XS.aloadN X9.here hx rfl (hb hby d5_64) rfl rfl ?_
    exact k
  refine own_c1 (getF X9 hx hZ hown (host := "") (Or.inl (hW hw 18 rfl)) Via.refl e9 F_right_o0 rfl rfl (hb hby d5_65)) fun T10 X10 e10 => ?_
  show own_Go p e below _ (T10.setTop (mkF m 68 (lA2_ o0 j0 j1 (1 : Int32)) [(.ref o5)]))
  refine own_by (B := T10.setTop (mkF m 71 (lA2_ o0 j0 j1 (1 : Int32)) [oZ, (.int (1 : Int32)), (.ref o5)])) (fun t k => ?_) ?_
  · refine XS.iload X10.here hx rfl (hb hby d5_68) rfl ?_
    refine XS.iconst X10.here hx rfl (hb hby d5_70) ?_
    exact k
  obtain ⟨cl11, Ar11, q11, S11, N11, H11, G11⟩ := V_o5
  have hin11 : ¬ ((1 : Int32) < 0 ∨ cl11.slots.size ≤ ((1 : Int32)).toNatClampNeg) := inb_of S11 ⟨by decide, by decide⟩
  refine own_c2 (stI X10 hx hZ e10 Ar11 (j := (1 : Int32)) hin11 rfl rfl (hb hby d5_71)) fun T11 h11 X11 e11 W11 => ?_
  replace V_o5 : Arv Z h11 o5 k3 .int (8 : Int32) [(.int i8), oZ, (.int i10)] oZ := Arv.set Ar11 q11 S11 N11 H11 G11 rfl W11 1 rfl nB_
  replace E_o0 := E_o0.wr W11
  replace F_prices_o0 := F_prices_o0.other W11 (Or.inl (Ne.symm nx4))
  replace F_sizes_o0 := F_sizes_o0.other W11 (Or.inl (Ne.symm nx4))
  replace F_left_o0 := F_left_o0.other W11 (Or.inl (Ne.symm nx4))
  replace F_right_o0 := F_right_o0.other W11 (Or.inl (Ne.symm nx4))
  replace F_heights_o0 := F_heights_o0.other W11 (Or.inl (Ne.symm nx4))
  replace F_root_o0 := F_root_o0.other W11 (Or.inl (Ne.symm nx4))
  replace F_best_o0 := F_best_o0.other W11 (Or.inl (Ne.symm nx4))
  replace F_unused_o0 := F_unused_o0.other W11 (Or.inl (Ne.symm nx4))
  replace F_free_o0 := F_free_o0.other W11 (Or.inl (Ne.symm nx4))
  replace F_count_o0 := F_count_o0.other W11 (Or.inl (Ne.symm nx4))
  replace F_highestFirst_o0 := F_highestFirst_o0.other W11 (Or.inl (Ne.symm nx4))
  replace V_o2 := V_o2.other W11 (Ne.symm ne_o5_o2)
  replace V_o3 := V_o3.other W11 (Ne.symm ne_o5_o3)
  replace V_o4 := V_o4.other W11 (Ne.symm ne_o5_o4)
  replace V_o6 := V_o6.other W11 ne_o6_o5
  replace K0 := K0.wr W11 (Or.inl (List.mem_of_getElem? (i := 4) rfl))
  replace Z0 := Nat.le_trans Z0 (Keep.of_wr W11).1
  replace N0 := Fr.snoc X11 N0 g_o5
  show own_Go p e below _ (T11.setTop (mkF m 72 (lA2_ o0 j0 j1 (1 : Int32)) []))
  refine own_by (B := T11.setTop (mkF m 73 (lA2_ o0 j0 j1 (1 : Int32)) [(.ref o0)])) (fun t k => ?_) ?_
  · refine XS.aloadN X11.here hx rfl (hb hby d5_72) rfl rfl ?_
    exact k
  refine own_c1 (getF X11 hx hZ hown (host := "") (Or.inl (hW hw 21 rfl)) Via.refl e11 F_heights_o0 rfl rfl (hb hby d5_73)) fun T12 X12 e12 => ?_
  show own_Go p e below _ (T12.setTop (mkF m 76 (lA2_ o0 j0 j1 (1 : Int32)) [(.ref o6)]))
  refine own_by (B := T12.setTop (mkF m 79 (lA2_ o0 j0 j1 (1 : Int32)) [(.int (1 : Int32)), (.int (1 : Int32)), (.ref o6)])) (fun t k => ?_) ?_
  · refine XS.iload X12.here hx rfl (hb hby d5_76) rfl ?_
    refine XS.iconst X12.here hx rfl (hb hby d5_78) ?_
    exact k
  obtain ⟨cl13, Ar13, q13, S13, N13, H13, G13⟩ := V_o6
  have hin13 : ¬ ((1 : Int32) < 0 ∨ cl13.slots.size ≤ ((1 : Int32)).toNatClampNeg) := inb_of S13 ⟨by decide, by decide⟩
  refine own_c2 (stB X12 hx hZ e12 Ar13 (j := (1 : Int32)) hin13 rfl rfl (hb hby d5_79)) fun T13 h13 X13 e13 W13 => ?_
  replace V_o6 : Arv Z h13 o6 k4 .byte (8 : Int32) [(.int i11), (.int (1 : Int32)), (.int i13)] oZ := Arv.set Ar13 q13 S13 N13 H13 G13 rfl W13 1 rfl nB_
  replace E_o0 := E_o0.wr W13
  replace F_prices_o0 := F_prices_o0.other W13 (Or.inl (Ne.symm nx5))
  replace F_sizes_o0 := F_sizes_o0.other W13 (Or.inl (Ne.symm nx5))
  replace F_left_o0 := F_left_o0.other W13 (Or.inl (Ne.symm nx5))
  replace F_right_o0 := F_right_o0.other W13 (Or.inl (Ne.symm nx5))
  replace F_heights_o0 := F_heights_o0.other W13 (Or.inl (Ne.symm nx5))
  replace F_root_o0 := F_root_o0.other W13 (Or.inl (Ne.symm nx5))
  replace F_best_o0 := F_best_o0.other W13 (Or.inl (Ne.symm nx5))
  replace F_unused_o0 := F_unused_o0.other W13 (Or.inl (Ne.symm nx5))
  replace F_free_o0 := F_free_o0.other W13 (Or.inl (Ne.symm nx5))
  replace F_count_o0 := F_count_o0.other W13 (Or.inl (Ne.symm nx5))
  replace F_highestFirst_o0 := F_highestFirst_o0.other W13 (Or.inl (Ne.symm nx5))
  replace V_o2 := V_o2.other W13 (Ne.symm ne_o6_o2)
  replace V_o3 := V_o3.other W13 (Ne.symm ne_o6_o3)
  replace V_o4 := V_o4.other W13 (Ne.symm ne_o6_o4)
  replace V_o5 := V_o5.other W13 (Ne.symm ne_o6_o5)
  replace K0 := K0.wr W13 (Or.inl (List.mem_of_getElem? (i := 5) rfl))
  replace Z0 := Nat.le_trans Z0 (Keep.of_wr W13).1
  replace N0 := Fr.snoc X13 N0 g_o6
  show own_Go p e below _ (T13.setTop (mkF m 80 (lA2_ o0 j0 j1 (1 : Int32)) []))
  refine own_by (B := T13.setTop (mkF m 82 (lA2_ o0 j0 j1 (1 : Int32)) [(.ref o0), (.ref o0)])) (fun t k => ?_) ?_
  · refine XS.aloadN X13.here hx rfl (hb hby d5_80) rfl rfl ?_
    refine XS.dup X13.here hx rfl (hb hby d5_81) rfl rfl ?_
    exact k
  refine own_c1 (getF X13 hx hZ hown (host := "") (Or.inl (hW hw 46 rfl)) Via.refl e13 F_count_o0 rfl rfl (hb hby d5_82)) fun T14 X14 e14 => ?_
  show own_Go p e below _ (T14.setTop (mkF m 85 (lA2_ o0 j0 j1 (1 : Int32)) [(.int i3), (.ref o0)]))
  refine own_by (B := T14.setTop (mkF m 87 (lA2_ o0 j0 j1 (1 : Int32)) [(.int (i3 + (1 : Int32))), (.ref o0)])) (fun t k => ?_) ?_
  · refine XS.iconst X14.here hx rfl (hb hby d5_85) ?_
    refine XS.iadd X14.here hx rfl (hb hby d5_86) rfl ?_
    show Steps p.tables e below (T14.setTop (mkF m 87 (lA2_ o0 j0 j1 (1 : Int32)) [(.int (i3 + (1 : Int32))), (.ref o0)])) _
    exact k
  refine own_c2 (putF X14 hx hZ hown (host := "") (Or.inl (hW hw 46 rfl)) Via.refl e14 F_count_o0 E_o0 (Or.inl (hW hw 47 rfl)) (hW hw 2 rfl) (ty := .int) dE_ rfl rfl rfl rfl (hb hby d5_87)) fun T15 h15 X15 e15 W15 => ?_
  replace F_count_o0 := F_count_o0.same W15
  replace E_o0 := E_o0.wr W15
  replace F_prices_o0 := F_prices_o0.other W15 (Or.inr (sn14 hw))
  replace F_sizes_o0 := F_sizes_o0.other W15 (Or.inr (sn15 hw))
  replace F_left_o0 := F_left_o0.other W15 (Or.inr (sn16 hw))
  replace F_right_o0 := F_right_o0.other W15 (Or.inr (sn17 hw))
  replace F_heights_o0 := F_heights_o0.other W15 (Or.inr (sn18 hw))
  replace F_root_o0 := F_root_o0.other W15 (Or.inr (sn19 hw))
  replace F_best_o0 := F_best_o0.other W15 (Or.inr (sn20 hw))
  replace F_unused_o0 := F_unused_o0.other W15 (Or.inr (sn21 hw))
  replace F_free_o0 := F_free_o0.other W15 (Or.inr (sn22 hw))
  replace F_highestFirst_o0 := F_highestFirst_o0.other W15 (Or.inr (sn23 hw))
  replace V_o2 := V_o2.other W15 nx1
  replace V_o3 := V_o3.other W15 nx2
  replace V_o4 := V_o4.other W15 nx3
  replace V_o5 := V_o5.other W15 nx4
  replace V_o6 := V_o6.other W15 nx5
  replace K0 := K0.wr W15 (Or.inl (List.mem_of_getElem? (i := 0) rfl))
  replace Z0 := Nat.le_trans Z0 (Keep.of_wr W15).1
  replace N0 := Fr.snoc X15 N0 g_o0
  show own_Go p e below _ (T15.setTop (mkF m 90 (lA2_ o0 j0 j1 (1 : Int32)) []))
  refine own_by (B := T15.setTop (mkF m 92 (lA2_ o0 j0 j1 (1 : Int32)) [(.int (1 : Int32))])) (fun t k => ?_) ?_
  · refine XS.iload X15.here hx rfl (hb hby d5_90) rfl ?_
    exact k
  exact own_retI X15 Bd.notSynchronized hx Bd.returns (hb hby d5_92) (by
      try rw [show T15.heap = h15 from e15]
      exact ⟨rfl, N0, K0, E_o0, F_prices_o0, F_sizes_o0, F_left_o0, F_right_o0, F_heights_o0, F_root_o0, F_best_o0, F_unused_o0, F_free_o0, F_count_o0, F_highestFirst_o0, V_o2, V_o3, V_o4, V_o5, V_o6⟩) dE_ dE_

theorem d4_0 : dC14_ 0 (.iload_n 1, 1) := by decide +kernel
theorem d4_1 : dC14_ 1 (.ifCond .ne 11, 3) := by decide +kernel
theorem d4_4 : dC14_ 4 (.aload_n 0, 1) := by decide +kernel
theorem d4_5 : dC14_ 5 (.lload_n 2, 1) := by decide +kernel
theorem d4_6 : dC14_ 6 (.lload 4, 2) := by decide +kernel
theorem d4_8 : dC14_ 8 (.invokevirtual 80, 3) := by decide +kernel
theorem d4_11 : dC14_ 11 (.ireturn, 1) := by decide +kernel
theorem pn_4 : plainName "com/example/tidebook/tidebook/book/PriceLevels" = true := by first | (simp [plainName, overriddenIn]; done) | decide +kernel
theorem ef_4 (m : MethodId) (x0 : Addr) (x1 : Int32) (x2 x3 : Int64) : entryFrame m #[(.ref x0), (.int x1), (.long x2), (.long x3)] 7 = mkF m 0 (lA3_ x0 x1 x2 x3) [] := by first | (simp [entryFrame, mkF, argsToLocals, Value.category]; done) | rfl
def Q4_10 (Z : State) (o0 : Addr) (i0 : Int32) (j0 j1 : Int64) (o2 o3 : Addr) (o4 o5 o6 : Addr) (i1 i2 : Int32) (i3 i4 : Int32) (k0 : ClassId) (j2 j3 j4 : Int64) (k1 : ClassId) (j5 j6 j7 : Int64) (k2 : ClassId) (i5 i6 i7 : Int32) (k3 : ClassId) (i8 i9 i10 : Int32) (k4 : ClassId) (i11 i12 i13 : Int32) (h0 : Heap) (n0 : Nat) (v : Option Value) (h : Heap) (L : List Loc) : Prop := v = some (.int (1 : Int32)) ∧ Fr n0 L ∧ Keep h0 h [o6, o5, o4, o3, o2, o0] ∧ Arv Z h o6 k4 .byte (8 : Int32) [(.int i11), (.int (1 : Int32)), (.int i13)] oZ ∧ Arv Z h o5 k3 .int (8 : Int32) [(.int i8), oZ, (.int i10)] oZ ∧ Arv Z h o4 k2 .int (8 : Int32) [(.int i5), oZ, (.int i7)] oZ ∧ Arv Z h o3 k1 .long (8 : Int32) [(.long j5), (.long j1), (.long j7)] oY ∧ Arv Z h o2 k0 .long (8 : Int32) [(.long j2), (.long j0), (.long j4)] oY ∧ Exa Z h o0 c0_ ∧ Fld Z h o0 c0_ "prices" "[J" (.ref o2) ∧ Fld Z h o0 c0_ "sizes" "[J" (.ref o3) ∧ Fld Z h o0 c0_ "left" "[I" (.ref o4) ∧ Fld Z h o0 c0_ "right" "[I" (.ref o5) ∧ Fld Z h o0 c0_ "heights" "[B" (.ref o6) ∧ Fld Z h o0 c0_ "root" "I" (.int i0) ∧ Fld Z h o0 c0_ "best" "I" (.int i1) ∧ Fld Z h o0 c0_ "unused" "I" (.int (2 : Int32)) ∧ Fld Z h o0 c0_ "free" "I" (.int i2) ∧ Fld Z h o0 c0_ "count" "I" (.int (i3 + (1 : Int32))) ∧ Fld Z h o0 c0_ "highestFirst" "Z" (.int i4)
set_option maxRecDepth 65536 in
set_option maxHeartbeats 40000000 in
theorem rm4_10 (l : Launch) (Z : State) (a0 : Array Value) (hw : oW_ a0 Z) (ws : List Jvm.Cond) (o0 : Addr) (i0 : Int32) (j0 j1 : Int64) (o2 o3 : Addr) (o4 o5 o6 : Addr) (i1 i2 : Int32) (i3 i4 : Int32) (k0 : ClassId) (j2 j3 j4 : Int64) (k1 : ClassId) (j5 j6 j7 : Int64) (k2 : ClassId) (i5 i6 i7 : Int32) (k3 : ClassId) (i8 i9 i10 : Int32) (k4 : ClassId) (i11 i12 i13 : Int32) (h0 : Heap) (n0 : Nat) (Z0 : n0 ≤ h0.size) (E_o0 : Exa Z h0 o0 c0_) (F_prices_o0 : Fld Z h0 o0 c0_ "prices" "[J" (.ref o2)) (F_sizes_o0 : Fld Z h0 o0 c0_ "sizes" "[J" (.ref o3)) (F_left_o0 : Fld Z h0 o0 c0_ "left" "[I" (.ref o4)) (F_right_o0 : Fld Z h0 o0 c0_ "right" "[I" (.ref o5)) (F_heights_o0 : Fld Z h0 o0 c0_ "heights" "[B" (.ref o6)) (F_root_o0 : Fld Z h0 o0 c0_ "root" "I" (.int i0)) (F_best_o0 : Fld Z h0 o0 c0_ "best" "I" (.int i1)) (F_unused_o0 : Fld Z h0 o0 c0_ "unused" "I" (.int (1 : Int32))) (F_free_o0 : Fld Z h0 o0 c0_ "free" "I" (.int i2)) (F_count_o0 : Fld Z h0 o0 c0_ "count" "I" (.int i3)) (F_highestFirst_o0 : Fld Z h0 o0 c0_ "highestFirst" "Z" (.int i4)) (g_o0 : n0 ≤ o0) (V_o2 : Arv Z h0 o2 k0 .long (8 : Int32) [(.long j2), (.long j3), (.long j4)] oY) (g_o2 : n0 ≤ o2) (V_o3 : Arv Z h0 o3 k1 .long (8 : Int32) [(.long j5), (.long j6), (.long j7)] oY) (g_o3 : n0 ≤ o3) (V_o4 : Arv Z h0 o4 k2 .int (8 : Int32) [(.int i5), (.int i6), (.int i7)] oZ) (g_o4 : n0 ≤ o4) (V_o5 : Arv Z h0 o5 k3 .int (8 : Int32) [(.int i8), (.int i9), (.int i10)] oZ) (g_o5 : n0 ≤ o5) (V_o6 : Arv Z h0 o6 k4 .byte (8 : Int32) [(.int i11), (.int i12), (.int i13)] oZ) (g_o6 : n0 ≤ o6) (hp0 : i0 = (0 : Int32)) (hp1 : i2 = (0 : Int32)) (ne_o3_o2 : o3 ≠ o2) (ne_o4_o2 : o4 ≠ o2) (ne_o5_o2 : o5 ≠ o2) (ne_o6_o2 : o6 ≠ o2) (ne_o4_o3 : o4 ≠ o3) (ne_o5_o3 : o5 ≠ o3) (ne_o6_o3 : o6 ≠ o3) (ne_o5_o4 : o5 ≠ o4) (ne_o6_o4 : o6 ≠ o4) (ne_o6_o5 : o6 ≠ o5) :
    MetFree l y14_ (head1 (Jvm.Cond.code y14_ prog_3_method_8_code 7 (some .int) :: ws) (rM_ 1 0 0 17)) (fun a U => a = #[(.ref o0), (.int i0), (.long j0), (.long j1)] ∧ Z.Warmed39 U.vm ∧ U.heap = h0) (fun _ _ _ _ _ => True) (fun _ U o U' => ∃ v L, o = .returned v ∧ Q4_10 Z o0 i0 j0 j1 o2 o3 o4 o5 o6 i1 i2 i3 i4 k0 j2 j3 j4 k1 j5 j6 j7 k2 i5 i6 i7 k3 i8 i9 i10 k4 i11 i12 i13 h0 n0 v U'.heap L ∧ FrameEnd U o U' L (rM_ 1 0 0 17).cells (rM_ 1 0 0 17).slots) := by
  refine MetFree.of_bodySF (plainFor_of_name pn_4) hisR ?_
  intro p e s m args below meth c s₁ Bd hml0 hP hK
  obtain ⟨rfl, hZ, hh⟩ := hP
  have hx := Bd.exec
  have hby := Bd.bytes
  have hml : c.maxLocals = 7 := hml0
  have hown : s.vm.findClass c0_ = some m.cls := findClass_of_methodNamed Bd.named
  have hnm := (name_of_methodNamed Bd.named Bd.method).1
  have X0 : Stand p l e (rM_ 1 0 0 17) s m #[(.ref o0), (.int i0), (.long j0), (.long j1)] below meth c s₁ [] 0 0 := Stand.of_body Bd
  have e0 : s₁.heap = h0 := by rw [← hh, Bd.state]; rfl
  have N0 := Fr.nil n0
  have K0 : Keep h0 h0 [o6, o5, o4, o3, o2, o0] := Keep.refl h0 _
  change own_Go p e below (own_Post s (Q4_10 Z o0 i0 j0 j1 o2 o3 o4 o5 o6 i1 i2 i3 i4 k0 j2 j3 j4 k1 j5 j6 j7 k2 i5 i6 i7 k3 i8 i9 i10 k4 i11 i12 i13 h0 n0) (rM_ 1 0 0 17).cells (rM_ 1 0 0 17).slots) (s₁.setTop (entryFrame m #[(.ref o0), (.int i0), (.long j0), (.long j1)] 7))
  refine own_by (fun t k => castTop (ef_4 m o0 i0 j0 j1) k) ?_
  show own_Go p e below _ (s₁.setTop (mkF m 0 (lA3_ o0 i0 j0 j1) []))
  refine own_by (B := s₁.setTop (mkF m 8 (lA3_ o0 i0 j0 j1) [(.long j1), (.long j0), (.ref o0)])) (fun t k => ?_) ?_
  · refine XS.iloadN X0.here hx rfl (hb hby d4_0) rfl ?_
    refine XS.ifNo X0.here hx rfl (hb hby d4_1) rfl ((if0 _ _).trans (teq hp0).2) ?_
    show Steps p.tables e below (s₁.setTop (mkF m 4 (lA3_ o0 i0 j0 j1) [])) _
    refine XS.aloadN X0.here hx rfl (hb hby d4_4) rfl rfl ?_
    refine XS.lloadN X0.here hx rfl (hb hby d4_5) rfl ?_
    refine XS.lload X0.here hx rfl (hb hby d4_6) rfl ?_
    exact k
  refine own_cc (own_callP X0 hx hZ (y := y13_) hown (hW hw 42 rfl) (hW hw 43 rfl) (hW hw 3 rfl) (hW hw 45 rfl) (hW hw 44 rfl) (hW hw 2 rfl) dE_ (rm5_9 l Z a0 hw [] o0 j0 j1 o2 o3 o4 o5 o6 i0 i1 i2 i3 i4 k0 j2 j3 j4 k1 j5 j6 j7 k2 i5 i6 i7 k3 i8 i9 i10 k4 i11 i12 i13 h0 n0 Z0 E_o0 F_prices_o0 F_sizes_o0 F_left_o0 F_right_o0 F_heights_o0 F_root_o0 F_best_o0 F_unused_o0 F_free_o0 F_count_o0 F_highestFirst_o0 g_o0 V_o2 g_o2 V_o3 g_o3 V_o4 g_o4 V_o5 g_o5 V_o6 g_o6 hp1 ne_o3_o2 ne_o4_o2 ne_o5_o2 ne_o6_o2 ne_o4_o3 ne_o5_o3 ne_o6_o3 ne_o5_o4 ne_o6_o4 ne_o6_o5) e0 0 dE_ dE_ dE_ dE_ rfl (by rw [hml]; rfl) o0 E_o0 [(.long j0), (.long j1)] [] rfl (lenOf pd_4 rfl) rfl (by show 2 * 0 + _ ≤ _; exact Nat.le_of_eq rfl) (hb hby d4_8)) fun T2 L2 v2 X2 hQ2 => ?_
  obtain ⟨rfl, N2, K2, E_o0', F_prices_o0', F_sizes_o0', F_left_o0', F_right_o0', F_heights_o0', F_root_o0', F_best_o0', F_unused_o0', F_free_o0', F_count_o0', F_highestFirst_o0', V_o2', V_o3', V_o4', V_o5', V_o6'⟩ := hQ2
  replace N0 := Fr.app N0 N2
  replace E_o0 := E_o0.keep K2
  replace K0 := K0.trans K2 (allS (Or.inl (List.mem_of_getElem? (i := 5) rfl)) (allS (Or.inl (List.mem_of_getElem? (i := 4) rfl)) (allS (Or.inl (List.mem_of_getElem? (i := 3) rfl)) (allS (Or.inl (List.mem_of_getElem? (i := 2) rfl)) (allS (Or.inl (List.mem_of_getElem? (i := 1) rfl)) (allS (Or.inl (List.mem_of_getElem? (i := 0) rfl)) all0))))))
  replace Z0 := Nat.le_trans Z0 K2.1
  replace E_o0 := E_o0'
  have F_prices_o0 := F_prices_o0'
  have F_sizes_o0 := F_sizes_o0'
  have F_left_o0 := F_left_o0'
  have F_right_o0 := F_right_o0'
  have F_heights_o0 := F_heights_o0'
  have F_root_o0 := F_root_o0'
  have F_best_o0 := F_best_o0'
  have F_unused_o0 := F_unused_o0'
  have F_free_o0 := F_free_o0'
  have F_count_o0 := F_count_o0'
  have F_highestFirst_o0 := F_highestFirst_o0'
  have V_o2 := V_o2'
  have V_o3 := V_o3'
  have V_o4 := V_o4'
  have V_o5 := V_o5'
  have V_o6 := V_o6'
  show own_Go p e below _ (T2.setTop (mkF m 11 (lA3_ o0 i0 j0 j1) [(.int (1 : Int32))]))
  exact own_retI X2 Bd.notSynchronized hx Bd.returns (hb hby d4_11) ⟨rfl, N0, K0, V_o6, V_o5, V_o4, V_o3, V_o2, E_o0, F_prices_o0, F_sizes_o0, F_left_o0, F_right_o0, F_heights_o0, F_root_o0, F_best_o0, F_unused_o0, F_free_o0, F_count_o0, F_highestFirst_o0⟩ dE_ dE_

theorem d3_0 : dC15_ 0 (.lload_n 3, 1) := by decide +kernel
theorem d3_1 : dC15_ 1 (.lconst 0, 1) := by decide +kernel
theorem d3_2 : dC15_ 2 (.lcmp, 1) := by decide +kernel
theorem d3_3 : dC15_ 3 (.ifCond .ne 19, 3) := by decide +kernel
theorem d3_22 : dC15_ 22 (.aload_n 0, 1) := by decide +kernel
theorem d3_23 : dC15_ 23 (.getfield 39, 3) := by decide +kernel
theorem d3_26 : dC15_ 26 (.ifCond .ne 19, 3) := by decide +kernel
theorem d3_29 : dC15_ 29 (.aload_n 0, 1) := by decide +kernel
theorem d3_30 : dC15_ 30 (.getfield 36, 3) := by decide +kernel
theorem d3_33 : dC15_ 33 (.aload_n 0, 1) := by decide +kernel
theorem d3_34 : dC15_ 34 (.getfield 11, 3) := by decide +kernel
theorem d3_37 : dC15_ 37 (.arraylength, 1) := by decide +kernel
theorem d3_38 : dC15_ 38 (.if_icmp .ne 7, 3) := by decide +kernel
theorem d3_45 : dC15_ 45 (.aload_n 0, 1) := by decide +kernel
theorem d3_46 : dC15_ 46 (.aload_n 0, 1) := by decide +kernel
theorem d3_47 : dC15_ 47 (.aload_n 0, 1) := by decide +kernel
theorem d3_48 : dC15_ 48 (.getfield 29, 3) := by decide +kernel
theorem d3_51 : dC15_ 51 (.lload_n 1, 1) := by decide +kernel
theorem d3_52 : dC15_ 52 (.lload_n 3, 1) := by decide +kernel
theorem d3_53 : dC15_ 53 (.invokevirtual 53, 3) := by decide +kernel
theorem d3_56 : dC15_ 56 (.putfield 29, 3) := by decide +kernel
theorem d3_59 : dC15_ 59 (.aload_n 0, 1) := by decide +kernel
theorem d3_60 : dC15_ 60 (.aload_n 0, 1) := by decide +kernel
theorem d3_61 : dC15_ 61 (.getfield 29, 3) := by decide +kernel
theorem d3_64 : dC15_ 64 (.putfield 33, 3) := by decide +kernel
theorem d3_67 : dC15_ 67 (.aload_n 0, 1) := by decide +kernel
theorem d3_68 : dC15_ 68 (.getfield 18, 3) := by decide +kernel
theorem d3_71 : dC15_ 71 (.aload_n 0, 1) := by decide +kernel
theorem d3_72 : dC15_ 72 (.getfield 33, 3) := by decide +kernel
theorem d3_75 : dC15_ 75 (.iaload, 1) := by decide +kernel
theorem d3_76 : dC15_ 76 (.ifCond .eq 19, 3) := by decide +kernel
theorem d3_95 : dC15_ 95 (.return_, 1) := by decide +kernel
theorem pn_3 : plainName "com/example/tidebook/tidebook/book/PriceLevels" = true := by first | (simp [plainName, overriddenIn]; done) | decide +kernel
theorem pd_3 : parseMethodDescriptor "(IJJ)I" = some ⟨[.int, .long, .long], some .int⟩ := by decide +kernel
theorem ef_3 (m : MethodId) (x0 : Addr) (x1 x2 : Int64) : entryFrame m #[(.ref x0), (.long x1), (.long x2)] 5 = mkF m 0 (lA0_ x0 x1 x2) [] := by first | (simp [entryFrame, mkF, argsToLocals, Value.category]; done) | rfl
def Q3_11 (Z : State) (o0 : Addr) (j0 j1 : Int64) (o2 o3 : Addr) (o4 o5 o6 : Addr) (i0 i1 : Int32) (i2 i3 i4 : Int32) (k0 : ClassId) (j2 j3 j4 : Int64) (k1 : ClassId) (j5 j6 j7 : Int64) (k2 : ClassId) (i5 i6 i7 : Int32) (k3 : ClassId) (i8 i9 i10 : Int32) (k4 : ClassId) (i11 i12 i13 : Int32) (h0 : Heap) (n0 : Nat) (v : Option Value) (h : Heap) (L : List Loc) : Prop := v = none ∧ Fr n0 L ∧ Keep h0 h [o0, o2, o3, o4, o5, o6] ∧ Exa Z h o0 c0_ ∧ Fld Z h o0 c0_ "prices" "[J" (.ref o2) ∧ Fld Z h o0 c0_ "sizes" "[J" (.ref o3) ∧ Fld Z h o0 c0_ "left" "[I" (.ref o4) ∧ Fld Z h o0 c0_ "right" "[I" (.ref o5) ∧ Fld Z h o0 c0_ "heights" "[B" (.ref o6) ∧ Fld Z h o0 c0_ "root" "I" (.int (1 : Int32)) ∧ Fld Z h o0 c0_ "best" "I" (.int (1 : Int32)) ∧ Fld Z h o0 c0_ "unused" "I" (.int (2 : Int32)) ∧ Fld Z h o0 c0_ "free" "I" (.int i2) ∧ Fld Z h o0 c0_ "count" "I" (.int (i3 + (1 : Int32))) ∧ Fld Z h o0 c0_ "highestFirst" "Z" (.int i4) ∧ Arv Z h o2 k0 .long (8 : Int32) [(.long j2), (.long j0), (.long j4)] oY ∧ Arv Z h o3 k1 .long (8 : Int32) [(.long j5), (.long j1), (.long j7)] oY ∧ Arv Z h o4 k2 .int (8 : Int32) [(.int i5), oZ, (.int i7)] oZ ∧ Arv Z h o5 k3 .int (8 : Int32) [(.int i8), oZ, (.int i10)] oZ ∧ Arv Z h o6 k4 .byte (8 : Int32) [(.int i11), (.int (1 : Int32)), (.int i13)] oZ
set_option maxRecDepth 65536 in
set_option maxHeartbeats 40000000 in
theorem rm3_11 (l : Launch) (Z : State) (a0 : Array Value) (hw : oW_ a0 Z) (ws : List Jvm.Cond) (o0 : Addr) (j0 j1 : Int64) (o2 o3 : Addr) (o4 o5 o6 : Addr) (i0 i1 : Int32) (i2 i3 i4 : Int32) (k0 : ClassId) (j2 j3 j4 : Int64) (k1 : ClassId) (j5 j6 j7 : Int64) (k2 : ClassId) (i5 i6 i7 : Int32) (k3 : ClassId) (i8 i9 i10 : Int32) (k4 : ClassId) (i11 i12 i13 : Int32) (h0 : Heap) (n0 : Nat) (Z0 : n0 ≤ h0.size) (E_o0 : Exa Z h0 o0 c0_) (F_prices_o0 : Fld Z h0 o0 c0_ "prices" "[J" (.ref o2)) (F_sizes_o0 : Fld Z h0 o0 c0_ "sizes" "[J" (.ref o3)) (F_left_o0 : Fld Z h0 o0 c0_ "left" "[I" (.ref o4)) (F_right_o0 : Fld Z h0 o0 c0_ "right" "[I" (.ref o5)) (F_heights_o0 : Fld Z h0 o0 c0_ "heights" "[B" (.ref o6)) (F_root_o0 : Fld Z h0 o0 c0_ "root" "I" (.int i0)) (F_best_o0 : Fld Z h0 o0 c0_ "best" "I" (.int i1)) (F_unused_o0 : Fld Z h0 o0 c0_ "unused" "I" (.int (1 : Int32))) (F_free_o0 : Fld Z h0 o0 c0_ "free" "I" (.int i2)) (F_count_o0 : Fld Z h0 o0 c0_ "count" "I" (.int i3)) (F_highestFirst_o0 : Fld Z h0 o0 c0_ "highestFirst" "Z" (.int i4)) (g_o0 : n0 ≤ o0) (V_o2 : Arv Z h0 o2 k0 .long (8 : Int32) [(.long j2), (.long j3), (.long j4)] oY) (g_o2 : n0 ≤ o2) (V_o3 : Arv Z h0 o3 k1 .long (8 : Int32) [(.long j5), (.long j6), (.long j7)] oY) (g_o3 : n0 ≤ o3) (V_o4 : Arv Z h0 o4 k2 .int (8 : Int32) [(.int i5), (.int i6), (.int i7)] oZ) (g_o4 : n0 ≤ o4) (V_o5 : Arv Z h0 o5 k3 .int (8 : Int32) [(.int i8), (.int i9), (.int i10)] oZ) (g_o5 : n0 ≤ o5) (V_o6 : Arv Z h0 o6 k4 .byte (8 : Int32) [(.int i11), (.int i12), (.int i13)] oZ) (g_o6 : n0 ≤ o6) (hp0 : ¬ (j1 = (0 : Int64))) (hp1 : i2 = (0 : Int32)) (hp2 : i0 = (0 : Int32)) (ne_o3_o2 : o3 ≠ o2) (ne_o4_o2 : o4 ≠ o2) (ne_o5_o2 : o5 ≠ o2) (ne_o6_o2 : o6 ≠ o2) (ne_o4_o3 : o4 ≠ o3) (ne_o5_o3 : o5 ≠ o3) (ne_o6_o3 : o6 ≠ o3) (ne_o5_o4 : o5 ≠ o4) (ne_o6_o4 : o6 ≠ o4) (ne_o6_o5 : o6 ≠ o5) :
    MetFree l y15_ (head1 (Jvm.Cond.code y15_ prog_3_method_4_code 5 none :: ws) (rM_ 2 0 0 36)) (fun a U => a = #[(.ref o0), (.long j0), (.long j1)] ∧ Z.Warmed39 U.vm ∧ U.heap = h0) (fun _ _ _ _ _ => True) (fun _ U o U' => ∃ v L, o = .returned v ∧ Q3_11 Z o0 j0 j1 o2 o3 o4 o5 o6 i0 i1 i2 i3 i4 k0 j2 j3 j4 k1 j5 j6 j7 k2 i5 i6 i7 k3 i8 i9 i10 k4 i11 i12 i13 h0 n0 v U'.heap L ∧ FrameEnd U o U' L (rM_ 2 0 0 36).cells (rM_ 2 0 0 36).slots) := by
  refine MetFree.of_bodySF (plainFor_of_name pn_3) hisR ?_
  intro p e s m args below meth c s₁ Bd hml0 hP hK
  obtain ⟨rfl, hZ, hh⟩ := hP
  have hx := Bd.exec
  have hby := Bd.bytes
  have hml : c.maxLocals = 5 := hml0
  have hown : s.vm.findClass c0_ = some m.cls := findClass_of_methodNamed Bd.named
  have hnm := (name_of_methodNamed Bd.named Bd.method).1
  have X0 : Stand p l e (rM_ 2 0 0 36) s m #[(.ref o0), (.long j0), (.long j1)] below meth c s₁ [] 0 0 := Stand.of_body Bd
  have e0 : s₁.heap = h0 := by rw [← hh, Bd.state]; rfl
  have N0 := Fr.nil n0
  have K0 : Keep h0 h0 [o0, o2, o3, o4, o5, o6] := Keep.refl h0 _
  change own_Go p e below (own_Post s (Q3_11 Z o0 j0 j1 o2 o3 o4 o5 o6 i0 i1 i2 i3 i4 k0 j2 j3 j4 k1 j5 j6 j7 k2 i5 i6 i7 k3 i8 i9 i10 k4 i11 i12 i13 h0 n0) (rM_ 2 0 0 36).cells (rM_ 2 0 0 36).slots) (s₁.setTop (entryFrame m #[(.ref o0), (.long j0), (.long j1)] 5))
  refine own_by (fun t k => castTop (ef_3 m o0 j0 j1) k) ?_
  show own_Go p e below _ (s₁.setTop (mkF m 0 (lA0_ o0 j0 j1) []))
  refine own_by (B := s₁.setTop (mkF m 23 (lA0_ o0 j0 j1) [(.ref o0)])) (fun t k => ?_) ?_
  · refine XS.lloadN X0.here hx rfl (hb hby d3_0) rfl ?_
    refine XS.lconst X0.here hx rfl (hb hby d3_1) ?_
    refine XS.lcmp X0.here hx rfl (hb hby d3_2) rfl ?_
    show Steps p.tables e below (s₁.setTop (mkF m 3 (lA0_ o0 j0 j1) [(.int (lcmpW j1 (0 : Int64)))])) _
    refine XS.ifYes X0.here hx rfl (pc0 := 3) (pc' := 22) rfl (hb hby d3_3) rfl ((if0 _ _).trans (feq (fun q => hp0 ((lw_eq _ _).mp q))).2) dE_ dE_ ?_
    show Steps p.tables e below (s₁.setTop (mkF m 22 (lA0_ o0 j0 j1) [])) _
    refine XS.aloadN X0.here hx rfl (hb hby d3_22) rfl rfl ?_
    exact k
  refine own_c1 (getF X0 hx hZ hown (host := "") (Or.inl (hW hw 29 rfl)) Via.refl e0 F_free_o0 rfl rfl (hb hby d3_23)) fun T1 X1 e1 => ?_
  show own_Go p e below _ (T1.setTop (mkF m 26 (lA0_ o0 j0 j1) [(.int i2)]))
  refine own_by (B := T1.setTop (mkF m 30 (lA0_ o0 j0 j1) [(.ref o0)])) (fun t k => ?_) ?_
  · refine XS.ifNo X1.here hx rfl (hb hby d3_26) rfl ((if0 _ _).trans (teq hp1).2) ?_
    show Steps p.tables e below (T1.setTop (mkF m 29 (lA0_ o0 j0 j1) [])) _
    refine XS.aloadN X1.here hx rfl (hb hby d3_29) rfl rfl ?_
    exact k
  refine own_c1 (getF X1 hx hZ hown (host := "") (Or.inl (hW hw 27 rfl)) Via.refl e1 F_unused_o0 rfl rfl (hb hby d3_30)) fun T2 X2 e2 => ?_
  show own_Go p e below _ (T2.setTop (mkF m 33 (lA0_ o0 j0 j1) [(.int (1 : Int32))]))
  refine own_by (B := T2.setTop (mkF m 34 (lA0_ o0 j0 j1) [(.ref o0), (.int (1 : Int32))])) (fun t k => ?_) ?_
  · refine XS.aloadN X2.here hx rfl (hb hby d3_33) rfl rfl ?_
    exact k
  refine own_c1 (getF X2 hx hZ hown (host := "") (Or.inl (hW hw 11 rfl)) Via.refl e2 F_prices_o0 rfl rfl (hb hby d3_34)) fun T3 X3 e3 => ?_
  show own_Go p e below _ (T3.setTop (mkF m 37 (lA0_ o0 j0 j1) [(.ref o2), (.int (1 : Int32))]))
  refine own_by (B := T3.setTop (mkF m 48 (lA0_ o0 j0 j1) [(.ref o0), (.ref o0), (.ref o0)])) (fun t k => ?_) ?_
  · obtain ⟨cl4, Ar4, -, S4, N4, -, -⟩ := id V_o2
    refine X3.arraylength hx (by rw [show T3.heap = h0 from e3]; exact Ar4.1) (State.isArrayOf_alike hZ.alike Ar4.2.1) (g := (mkF m 37 (lA0_ o0 j0 j1) [(.ref o2), (.int (1 : Int32))])) rfl rfl (hb hby d3_37) _ ?_
    rw [len_of S4 N4]
    show Steps p.tables e below (T3.setTop (mkF m 38 (lA0_ o0 j0 j1) [(.int (8 : Int32)), (.int (1 : Int32))])) _
    refine XS.icmpYes X3.here hx rfl (pc0 := 38) (pc' := 45) rfl (hb hby d3_38) rfl (feq (by decide : ¬ ((1 : Int32) = (8 : Int32)))).2 dE_ dE_ ?_
    show Steps p.tables e below (T3.setTop (mkF m 45 (lA0_ o0 j0 j1) [])) _
    refine XS.aloadN X3.here hx rfl (hb hby d3_45) rfl rfl ?_
    refine XS.aloadN X3.here hx rfl (hb hby d3_46) rfl rfl ?_
    refine XS.aloadN X3.here hx rfl (hb hby d3_47) rfl rfl ?_
    exact k
  refine own_c1 (getF X3 hx hZ hown (host := "") (Or.inl (hW hw 23 rfl)) Via.refl e3 F_root_o0 rfl rfl (hb hby d3_48)) fun T5 X5 e5 => ?_
  show own_Go p e below _ (T5.setTop (mkF m 51 (lA0_ o0 j0 j1) [(.int i0), (.ref o0), (.ref o0)]))
  refine own_by (B := T5.setTop (mkF m 53 (lA0_ o0 j0 j1) [(.long j1), (.long j0), (.int i0), (.ref o0), (.ref o0)])) (fun t k => ?_) ?_
  · refine XS.lloadN X5.here hx rfl (hb hby d3_51) rfl ?_
    refine XS.lloadN X5.here hx rfl (hb hby d3_52) rfl ?_
    exact k
  refine own_cc (own_callP X5 hx hZ (y := y14_) hown (hW hw 38 rfl) (hW hw 39 rfl) (hW hw 3 rfl) (hW hw 41 rfl) (hW hw 40 rfl) (hW hw 2 rfl) dE_ (rm4_10 l Z a0 hw [] o0 i0 j0 j1 o2 o3 o4 o5 o6 i1 i2 i3 i4 k0 j2 j3 j4 k1 j5 j6 j7 k2 i5 i6 i7 k3 i8 i9 i10 k4 i11 i12 i13 h0 n0 Z0 E_o0 F_prices_o0 F_sizes_o0 F_left_o0 F_right_o0 F_heights_o0 F_root_o0 F_best_o0 F_unused_o0 F_free_o0 F_count_o0 F_highestFirst_o0 g_o0 V_o2 g_o2 V_o3 g_o3 V_o4 g_o4 V_o5 g_o5 V_o6 g_o6 hp2 hp1 ne_o3_o2 ne_o4_o2 ne_o5_o2 ne_o6_o2 ne_o4_o3 ne_o5_o3 ne_o6_o3 ne_o5_o4 ne_o6_o4 ne_o6_o5) e5 1 dE_ dE_ dE_ dE_ rfl (by rw [hml]; rfl) o0 E_o0 [(.int i0), (.long j0), (.long j1)] [(.ref o0)] rfl (lenOf pd_3 rfl) rfl (by show 2 * 0 + _ ≤ _; exact Nat.le_of_eq rfl) (hb hby d3_53)) fun T7 L7 v7 X7 hQ7 => ?_
  obtain ⟨rfl, N7, K7, V_o6', V_o5', V_o4', V_o3', V_o2', E_o0', F_prices_o0', F_sizes_o0', F_left_o0', F_right_o0', F_heights_o0', F_root_o0', F_best_o0', F_unused_o0', F_free_o0', F_count_o0', F_highestFirst_o0'⟩ := hQ7
  replace N0 := Fr.app N0 N7
  replace E_o0 := E_o0.keep K7
  replace K0 := K0.trans K7 (allS (Or.inl (List.mem_of_getElem? (i := 5) rfl)) (allS (Or.inl (List.mem_of_getElem? (i := 4) rfl)) (allS (Or.inl (List.mem_of_getElem? (i := 3) rfl)) (allS (Or.inl (List.mem_of_getElem? (i := 2) rfl)) (allS (Or.inl (List.mem_of_getElem? (i := 1) rfl)) (allS (Or.inl (List.mem_of_getElem? (i := 0) rfl)) all0))))))
  replace Z0 := Nat.le_trans Z0 K7.1
  have V_o6 := V_o6'
  have V_o5 := V_o5'
  have V_o4 := V_o4'
  have V_o3 := V_o3'
  have V_o2 := V_o2'
  replace E_o0 := E_o0'
  have F_prices_o0 := F_prices_o0'
  have F_sizes_o0 := F_sizes_o0'
  have F_left_o0 := F_left_o0'
  have F_right_o0 := F_right_o0'
  have F_heights_o0 := F_heights_o0'
  have F_root_o0 := F_root_o0'
  have F_best_o0 := F_best_o0'
  have F_unused_o0 := F_unused_o0'
  have F_free_o0 := F_free_o0'
  have F_count_o0 := F_count_o0'
  have F_highestFirst_o0 := F_highestFirst_o0'
  show own_Go p e below _ (T7.setTop (mkF m 56 (lA0_ o0 j0 j1) [(.int (1 : Int32)), (.ref o0)]))
  refine own_c2 (putF X7 hx hZ hown (host := "") (Or.inl (hW hw 23 rfl)) Via.refl rfl F_root_o0 E_o0 (Or.inl (hW hw 24 rfl)) (hW hw 2 rfl) (ty := .int) dE_ rfl rfl rfl rfl (hb hby d3_56)) fun T8 h8 X8 e8 W8 => ?_
  replace F_root_o0 := F_root_o0.same W8
  have nx1 : o6 ≠ o0 := (Ne.symm (own_nev E_o0 (hW hw 2 rfl) V_o6))
  have nx2 : o5 ≠ o0 := (Ne.symm (own_nev E_o0 (hW hw 2 rfl) V_o5))
  have nx3 : o4 ≠ o0 := (Ne.symm (own_nev E_o0 (hW hw 2 rfl) V_o4))
  have nx4 : o3 ≠ o0 := (Ne.symm (own_nev E_o0 (hW hw 2 rfl) V_o3))
  have nx5 : o2 ≠ o0 := (Ne.symm (own_nev E_o0 (hW hw 2 rfl) V_o2))
  replace E_o0 := E_o0.wr W8
  replace V_o6 := V_o6.other W8 nx1
  replace V_o5 := V_o5.other W8 nx2
  replace V_o4 := V_o4.other W8 nx3
  replace V_o3 := V_o3.other W8 nx4
  replace V_o2 := V_o2.other W8 nx5
  replace F_prices_o0 := F_prices_o0.other W8 (Or.inr (sn24 hw))
  replace F_sizes_o0 := F_sizes_o0.other W8 (Or.inr (sn25 hw))
  replace F_left_o0 := F_left_o0.other W8 (Or.inr (sn26 hw))
  replace F_right_o0 := F_right_o0.other W8 (Or.inr (sn27 hw))
  replace F_heights_o0 := F_heights_o0.other W8 (Or.inr (sn28 hw))
  replace F_best_o0 := F_best_o0.other W8 (Or.inr (sn29 hw))
  replace F_unused_o0 := F_unused_o0.other W8 (Or.inr (sn30 hw))
  replace F_free_o0 := F_free_o0.other W8 (Or.inr (sn31 hw))
  replace F_count_o0 := F_count_o0.other W8 (Or.inr (sn32 hw))
  replace F_highestFirst_o0 := F_highestFirst_o0.other W8 (Or.inr (sn33 hw))
  replace K0 := K0.wr W8 (Or.inl (List.mem_of_getElem? (i := 0) rfl))
  replace Z0 := Nat.le_trans Z0 (Keep.of_wr W8).1
  replace N0 := Fr.snoc X8 N0 g_o0
  show own_Go p e below _ (T8.setTop (mkF m 59 (lA0_ o0 j0 j1) []))
  refine own_by (B := T8.setTop (mkF m 61 (lA0_ o0 j0 j1) [(.ref o0), (.ref o0)])) (fun t k => ?_) ?_
  · refine XS.aloadN X8.here hx rfl (hb hby d3_59) rfl rfl ?_
    refine XS.aloadN X8.here hx rfl (hb hby d3_60) rfl rfl ?_
    exact k
  refine own_c1 (getF X8 hx hZ hown (host := "") (Or.inl (hW hw 23 rfl)) Via.refl e8 F_root_o0 rfl rfl (hb hby d3_61)) fun T9 X9 e9 => ?_
  show own_Go p e below _ (T9.setTop (mkF m 64 (lA0_ o0 j0 j1) [(.int (1 : Int32)), (.ref o0)]))
  refine own_c2 (putF X9 hx hZ hown (host := "") (Or.inl (hW hw 25 rfl)) Via.refl e9 F_best_o0 E_o0 (Or.inl (hW hw 26 rfl)) (hW hw 2 rfl) (ty := .int) dE_ rfl rfl rfl rfl (hb hby d3_64)) fun T10 h10 X10 e10 W10 => ?_
  replace F_best_o0 := F_best_o0.same W10
  replace E_o0 := E_o0.wr W10
  replace V_o6 := V_o6.other W10 nx1
  replace V_o5 := V_o5.other W10 nx2
  replace V_o4 := V_o4.other W10 nx3
  replace V_o3 := V_o3.other W10 nx4
  replace V_o2 := V_o2.other W10 nx5
  replace F_prices_o0 := F_prices_o0.other W10 (Or.inr (sn34 hw))
  replace F_sizes_o0 := F_sizes_o0.other W10 (Or.inr (sn35 hw))
  replace F_left_o0 := F_left_o0.other W10 (Or.inr (sn36 hw))
  replace F_right_o0 := F_right_o0.other W10 (Or.inr (sn37 hw))
  replace F_heights_o0 := F_heights_o0.other W10 (Or.inr (sn38 hw))
  replace F_root_o0 := F_root_o0.other W10 (Or.inr (sn39 hw))
  replace F_unused_o0 := F_unused_o0.other W10 (Or.inr (sn40 hw))
  replace F_free_o0 := F_free_o0.other W10 (Or.inr (sn41 hw))
  replace F_count_o0 := F_count_o0.other W10 (Or.inr (sn42 hw))
  replace F_highestFirst_o0 := F_highestFirst_o0.other W10 (Or.inr (sn43 hw))
  replace K0 := K0.wr W10 (Or.inl (List.mem_of_getElem? (i := 0) rfl))
  replace Z0 := Nat.le_trans Z0 (Keep.of_wr W10).1
  replace N0 := Fr.snoc X10 N0 g_o0
  show own_Go p e below _ (T10.setTop (mkF m 67 (lA0_ o0 j0 j1) []))
  refine own_by (B := T10.setTop (mkF m 68 (lA0_ o0 j0 j1) [(.ref o0)])) (fun t k => ?_) ?_
  · refine XS.aloadN X10.here hx rfl (hb hby d3_67) rfl rfl ?_
    exact k
  refine own_c1 (getF X10 hx hZ hown (host := "") (Or.inl (hW hw 16 rfl)) Via.refl e10 F_left_o0 rfl rfl (hb hby d3_68)) fun T11 X11 e11 => ?_
  show own_Go p e below _ (T11.setTop (mkF m 71 (lA0_ o0 j0 j1) [(.ref o4)]))
  refine own_by (B := T11.setTop (mkF m 72 (lA0_ o0 j0 j1) [(.ref o0), (.ref o4)])) (fun t k => ?_) ?_
  · refine XS.aloadN X11.here hx rfl (hb hby d3_71) rfl rfl ?_
    exact k
  refine own_c1 (getF X11 hx hZ hown (host := "") (Or.inl (hW hw 25 rfl)) Via.refl e11 F_best_o0 rfl rfl (hb hby d3_72)) fun T12 X12 e12 => ?_
  show own_Go p e below _ (T12.setTop (mkF m 75 (lA0_ o0 j0 j1) [(.int (1 : Int32)), (.ref o4)]))
  refine own_by (B := T12.setTop (mkF m 95 (lA0_ o0 j0 j1) [])) (fun t k => ?_) ?_
  · obtain ⟨cl13, Ar13, q13, S13, N13, H13, G13⟩ := id V_o4
    have hin13 : ¬ ((1 : Int32) < 0 ∨ cl13.slots.size ≤ ((1 : Int32)).toNatClampNeg) := inb_of S13 ⟨by decide, by decide⟩
    have hat13 : cl13.slots[((1 : Int32)).toNatClampNeg]? = some oZ := H13.at hin13 rfl
    refine X12.iaload hx (j := (1 : Int32)) (v := oZ) (by rw [show T12.heap = h10 from e12]; exact Ar13.1) (State.isArrayOf_alike hZ.alike Ar13.2.1) Ar13.2.2 hin13 hat13 (g := (mkF m 75 (lA0_ o0 j0 j1) [(.int (1 : Int32)), (.ref o4)])) rfl rfl (hb hby d3_75) _ ?_
    show Steps p.tables e below (T12.setTop (mkF m 76 (lA0_ o0 j0 j1) [oZ])) _
    refine XS.ifYes X12.here hx rfl (pc0 := 76) (pc' := 95) rfl (hb hby d3_76) rfl ((if0 _ _).trans (teq (by decide : (0 : Int32) = (0 : Int32))).1) dE_ dE_ ?_
    show Steps p.tables e below (T12.setTop (mkF m 95 (lA0_ o0 j0 j1) [])) _
    exact k
  exact own_retV X12 Bd.notSynchronized hx Bd.returns (hb hby d3_95) (by
      try rw [show T12.heap = h10 from e12]
      exact ⟨rfl, N0, K0, E_o0, F_prices_o0, F_sizes_o0, F_left_o0, F_right_o0, F_heights_o0, F_root_o0, F_best_o0, F_unused_o0, F_free_o0, F_count_o0, F_highestFirst_o0, V_o2, V_o3, V_o4, V_o5, V_o6⟩) dE_ dE_

theorem d4_12 : dC14_ 12 (.aload_n 0, 1) := by decide +kernel
theorem d4_13 : dC14_ 13 (.lload_n 2, 1) := by decide +kernel
theorem d4_14 : dC14_ 14 (.aload_n 0, 1) := by decide +kernel
theorem d4_15 : dC14_ 15 (.getfield 11, 3) := by decide +kernel
theorem d4_18 : dC14_ 18 (.iload_n 1, 1) := by decide +kernel
theorem d4_19 : dC14_ 19 (.laload, 1) := by decide +kernel
theorem d4_20 : dC14_ 20 (.invokevirtual 84, 3) := by decide +kernel
theorem d4_23 : dC14_ 23 (.istore 6, 2) := by decide +kernel
theorem d4_25 : dC14_ 25 (.iload 6, 2) := by decide +kernel
theorem d4_27 : dC14_ 27 (.ifCond .ne 13, 3) := by decide +kernel
theorem d4_30 : dC14_ 30 (.aload_n 0, 1) := by decide +kernel
theorem d4_31 : dC14_ 31 (.getfield 15, 3) := by decide +kernel
theorem d4_34 : dC14_ 34 (.iload_n 1, 1) := by decide +kernel
theorem d4_35 : dC14_ 35 (.lload 4, 2) := by decide +kernel
theorem d4_37 : dC14_ 37 (.lastore, 1) := by decide +kernel
theorem d4_38 : dC14_ 38 (.iload_n 1, 1) := by decide +kernel
theorem d4_39 : dC14_ 39 (.ireturn, 1) := by decide +kernel
def Q4_12 (Z : State) (o0 : Addr) (j0 j1 : Int64) (o2 o3 : Addr) (i5 : Int32) (k0 : ClassId) (j2 j3 j4 : Int64) (k1 : ClassId) (j5 j6 j7 : Int64) (h0 : Heap) (n0 : Nat) (v : Option Value) (h : Heap) (L : List Loc) : Prop := v = some (.int (1 : Int32)) ∧ Fr n0 L ∧ Keep h0 h [o3] ∧ Arv Z h o3 k1 .long (8 : Int32) [(.long j5), (.long j1), (.long j7)] oY
set_option maxRecDepth 65536 in
set_option maxHeartbeats 40000000 in
theorem rm4_12 (l : Launch) (Z : State) (a0 : Array Value) (hw : oW_ a0 Z) (ws : List Jvm.Cond) (o0 : Addr) (j0 j1 : Int64) (o2 o3 : Addr) (i5 : Int32) (k0 : ClassId) (j2 j3 j4 : Int64) (k1 : ClassId) (j5 j6 j7 : Int64) (h0 : Heap) (n0 : Nat) (Z0 : n0 ≤ h0.size) (E_o0 : Exa Z h0 o0 c0_) (F_prices_o0 : Fld Z h0 o0 c0_ "prices" "[J" (.ref o2)) (F_sizes_o0 : Fld Z h0 o0 c0_ "sizes" "[J" (.ref o3)) (F_highestFirst_o0 : Fld Z h0 o0 c0_ "highestFirst" "Z" (.int i5)) (V_o2 : Arv Z h0 o2 k0 .long (8 : Int32) [(.long j2), (.long j3), (.long j4)] oY) (g_o3 : n0 ≤ o3) (V_o3 : Arv Z h0 o3 k1 .long (8 : Int32) [(.long j5), (.long j6), (.long j7)] oY) (hp0 : (fcp j0 j3 i5) = (0 : Int32)) (ne_o2_o3 : o2 ≠ o3) :
    MetFree l y14_ (head1 (Jvm.Cond.code y14_ prog_3_method_8_code 7 (some .int) :: ws) (rM_ 2 0 0 31)) (fun a U => a = #[(.ref o0), (.int (1 : Int32)), (.long j0), (.long j1)] ∧ Z.Warmed39 U.vm ∧ U.heap = h0) (fun _ _ _ _ _ => True) (fun _ U o U' => ∃ v L, o = .returned v ∧ Q4_12 Z o0 j0 j1 o2 o3 i5 k0 j2 j3 j4 k1 j5 j6 j7 h0 n0 v U'.heap L ∧ FrameEnd U o U' L (rM_ 2 0 0 31).cells (rM_ 2 0 0 31).slots) := by
  refine MetFree.of_bodySF (plainFor_of_name pn_4) hisR ?_
  intro p e s m args below meth c s₁ Bd hml0 hP hK
  obtain ⟨rfl, hZ, hh⟩ := hP
  have hx := Bd.exec
  have hby := Bd.bytes
  have hml : c.maxLocals = 7 := hml0
  have hown : s.vm.findClass c0_ = some m.cls := findClass_of_methodNamed Bd.named
  have hnm := (name_of_methodNamed Bd.named Bd.method).1
  have X0 : Stand p l e (rM_ 2 0 0 31) s m #[(.ref o0), (.int (1 : Int32)), (.long j0), (.long j1)] below meth c s₁ [] 0 0 := Stand.of_body Bd
  have e0 : s₁.heap = h0 := by rw [← hh, Bd.state]; rfl
  have N0 := Fr.nil n0
  have K0 : Keep h0 h0 [o3] := Keep.refl h0 _
  change own_Go p e below (own_Post s (Q4_12 Z o0 j0 j1 o2 o3 i5 k0 j2 j3 j4 k1 j5 j6 j7 h0 n0) (rM_ 2 0 0 31).cells (rM_ 2 0 0 31).slots) (s₁.setTop (entryFrame m #[(.ref o0), (.int (1 : Int32)), (.long j0), (.long j1)] 7))
  refine own_by (fun t k => castTop (ef_4 m o0 (1 : Int32) j0 j1) k) ?_
  show own_Go p e below _ (s₁.setTop (mkF m 0 (lA3_ o0 (1 : Int32) j0 j1) []))
  refine own_by (B := s₁.setTop (mkF m 15 (lA3_ o0 (1 : Int32) j0 j1) [(.ref o0), (.long j0), (.ref o0)])) (fun t k => ?_) ?_
  · refine XS.iloadN X0.here hx rfl (hb hby d4_0) rfl ?_
    refine XS.ifYes X0.here hx rfl (pc0 := 1) (pc' := 12) rfl (hb hby d4_1) rfl ((if0 _ _).trans (feq (by decide : ¬ ((1 : Int32) = (0 : Int32)))).2) dE_ dE_ ?_
    show Steps p.tables e below (s₁.setTop (mkF m 12 (lA3_ o0 (1 : Int32) j0 j1) [])) _
    refine XS.aloadN X0.here hx rfl (hb hby d4_12) rfl rfl ?_
    refine XS.lloadN X0.here hx rfl (hb hby d4_13) rfl ?_
    refine XS.aloadN X0.here hx rfl (hb hby d4_14) rfl rfl ?_
    exact k
  refine own_c1 (getF X0 hx hZ hown (host := "") (Or.inl (hW hw 11 rfl)) Via.refl e0 F_prices_o0 rfl rfl (hb hby d4_15)) fun T1 X1 e1 => ?_
  show own_Go p e below _ (T1.setTop (mkF m 18 (lA3_ o0 (1 : Int32) j0 j1) [(.ref o2), (.long j0), (.ref o0)]))
  refine own_by (B := T1.setTop (mkF m 20 (lA3_ o0 (1 : Int32) j0 j1) [(.long j3), (.long j0), (.ref o0)])) (fun t k => ?_) ?_
  · refine XS.iloadN X1.here hx rfl (hb hby d4_18) rfl ?_
    obtain ⟨cl2, Ar2, q2, S2, N2, H2, G2⟩ := id V_o2
    have hin2 : ¬ ((1 : Int32) < 0 ∨ cl2.slots.size ≤ ((1 : Int32)).toNatClampNeg) := inb_of S2 ⟨by decide, by decide⟩
    have hat2 : cl2.slots[((1 : Int32)).toNatClampNeg]? = some (.long j3) := H2.at hin2 rfl
    refine X1.laload hx (j := (1 : Int32)) (v := (.long j3)) (by rw [show T1.heap = h0 from e1]; exact Ar2.1) (State.isArrayOf_alike hZ.alike Ar2.2.1) Ar2.2.2 hin2 hat2 (g := (mkF m 19 (lA3_ o0 (1 : Int32) j0 j1) [(.int (1 : Int32)), (.ref o2), (.long j0), (.ref o0)])) rfl rfl (hb hby d4_19) _ ?_
    show Steps p.tables e below (T1.setTop (mkF m 20 (lA3_ o0 (1 : Int32) j0 j1) [(.long j3), (.long j0), (.ref o0)])) _
    exact k
  refine own_cc (own_callP X1 hx hZ (y := y4_) hown (hW hw 48 rfl) (hW hw 49 rfl) (hW hw 3 rfl) (hW hw 51 rfl) (hW hw 50 rfl) (hW hw 2 rfl) dE_ (rm6 l Z a0 hw [] o0 j0 j3 i5 h0 n0 Z0 F_highestFirst_o0) e1 0 dE_ dE_ dE_ dE_ rfl (by rw [hml]; rfl) o0 E_o0 [(.long j0), (.long j3)] [] rfl (lenOf pd_4 rfl) rfl (by show 2 * 0 + _ ≤ _; exact Nat.le_of_eq rfl) (hb hby d4_20)) fun T4 L4 v4 X4 hQ4 => ?_
  obtain ⟨rfl, N4, e4⟩ := hQ4
  replace N0 := Fr.app N0 N4
  show own_Go p e below _ (T4.setTop (mkF m 23 (lA3_ o0 (1 : Int32) j0 j1) [(.int (fcp j0 j3 i5))]))
  refine own_by (B := T4.setTop (mkF m 31 (lA4_ o0 (1 : Int32) j0 j1 (fcp j0 j3 i5)) [(.ref o0)])) (fun t k => ?_) ?_
  · refine XS.istore X4.here hx rfl (hb hby d4_23) rfl (l' := (lA4_ o0 (1 : Int32) j0 j1 (fcp j0 j3 i5))) rfl ?_
    show Steps p.tables e below (T4.setTop (mkF m 25 (lA4_ o0 (1 : Int32) j0 j1 (fcp j0 j3 i5)) [])) _
    refine XS.iload X4.here hx rfl (hb hby d4_25) rfl ?_
    refine XS.ifNo X4.here hx rfl (hb hby d4_27) rfl ((if0 _ _).trans (teq hp0).2) ?_
    show Steps p.tables e below (T4.setTop (mkF m 30 (lA4_ o0 (1 : Int32) j0 j1 (fcp j0 j3 i5)) [])) _
    refine XS.aloadN X4.here hx rfl (hb hby d4_30) rfl rfl ?_
    exact k
  refine own_c1 (getF X4 hx hZ hown (host := "") (Or.inl (hW hw 13 rfl)) Via.refl e4 F_sizes_o0 rfl rfl (hb hby d4_31)) fun T5 X5 e5 => ?_
  show own_Go p e below _ (T5.setTop (mkF m 34 (lA4_ o0 (1 : Int32) j0 j1 (fcp j0 j3 i5)) [(.ref o3)]))
  refine own_by (B := T5.setTop (mkF m 37 (lA4_ o0 (1 : Int32) j0 j1 (fcp j0 j3 i5)) [(.long j1), (.int (1 : Int32)), (.ref o3)])) (fun t k => ?_) ?_
  · refine XS.iloadN X5.here hx rfl (hb hby d4_34) rfl ?_
    refine XS.lload X5.here hx rfl (hb hby d4_35) rfl ?_
    exact k
  have nx1 : o0 ≠ o3 := (own_nev E_o0 (hW hw 2 rfl) V_o3)
  obtain ⟨cl6, Ar6, q6, S6, N6, H6, G6⟩ := V_o3
  have hin6 : ¬ ((1 : Int32) < 0 ∨ cl6.slots.size ≤ ((1 : Int32)).toNatClampNeg) := inb_of S6 ⟨by decide, by decide⟩
  refine own_c2 (stJ X5 hx hZ e5 Ar6 (j := (1 : Int32)) hin6 rfl rfl (hb hby d4_37)) fun T6 h6 X6 e6 W6 => ?_
  replace V_o3 : Arv Z h6 o3 k1 .long (8 : Int32) [(.long j5), (.long j1), (.long j7)] oY := Arv.set Ar6 q6 S6 N6 H6 G6 rfl W6 1 rfl nB_
  replace E_o0 := E_o0.wr W6
  replace F_prices_o0 := F_prices_o0.other W6 (Or.inl nx1)
  replace F_sizes_o0 := F_sizes_o0.other W6 (Or.inl nx1)
  replace F_highestFirst_o0 := F_highestFirst_o0.other W6 (Or.inl nx1)
  replace V_o2 := V_o2.other W6 ne_o2_o3
  replace K0 := K0.wr W6 (Or.inl (List.mem_of_getElem? (i := 0) rfl))
  replace Z0 := Nat.le_trans Z0 (Keep.of_wr W6).1
  replace N0 := Fr.snoc X6 N0 g_o3
  show own_Go p e below _ (T6.setTop (mkF m 38 (lA4_ o0 (1 : Int32) j0 j1 (fcp j0 j3 i5)) []))
  refine own_by (B := T6.setTop (mkF m 39 (lA4_ o0 (1 : Int32) j0 j1 (fcp j0 j3 i5)) [(.int (1 : Int32))])) (fun t k => ?_) ?_
  · refine XS.iloadN X6.here hx rfl (hb hby d4_38) rfl ?_
    exact k
  exact own_retI X6 Bd.notSynchronized hx Bd.returns (hb hby d4_39) (by
      try rw [show T6.heap = h6 from e6]
      exact ⟨rfl, N0, K0, V_o3⟩) dE_ dE_

def Q3_13 (Z : State) (o0 : Addr) (j0 j1 : Int64) (o2 o3 : Addr) (o4 o5 o6 : Addr) (i0 i1 : Int32) (i2 i3 i4 : Int32) (k0 : ClassId) (j2 j3 j4 : Int64) (k1 : ClassId) (j5 j6 j7 : Int64) (k2 : ClassId) (i5 i6 i7 : Int32) (h0 : Heap) (n0 : Nat) (v : Option Value) (h : Heap) (L : List Loc) : Prop := v = none ∧ Fr n0 L ∧ Keep h0 h [o3, o0] ∧ Arv Z h o3 k1 .long (8 : Int32) [(.long j5), (.long j1), (.long j7)] oY ∧ Exa Z h o0 c0_ ∧ Fld Z h o0 c0_ "prices" "[J" (.ref o2) ∧ Fld Z h o0 c0_ "sizes" "[J" (.ref o3) ∧ Fld Z h o0 c0_ "left" "[I" (.ref o4) ∧ Fld Z h o0 c0_ "right" "[I" (.ref o5) ∧ Fld Z h o0 c0_ "heights" "[B" (.ref o6) ∧ Fld Z h o0 c0_ "root" "I" (.int (1 : Int32)) ∧ Fld Z h o0 c0_ "best" "I" (.int (1 : Int32)) ∧ Fld Z h o0 c0_ "unused" "I" (.int i1) ∧ Fld Z h o0 c0_ "free" "I" (.int i2) ∧ Fld Z h o0 c0_ "count" "I" (.int i3) ∧ Fld Z h o0 c0_ "highestFirst" "Z" (.int i4)
set_option maxRecDepth 65536 in
set_option maxHeartbeats 40000000 in
theorem rm3_13 (l : Launch) (Z : State) (a0 : Array Value) (hw : oW_ a0 Z) (ws : List Jvm.Cond) (o0 : Addr) (j0 j1 : Int64) (o2 o3 : Addr) (o4 o5 o6 : Addr) (i0 i1 : Int32) (i2 i3 i4 : Int32) (k0 : ClassId) (j2 j3 j4 : Int64) (k1 : ClassId) (j5 j6 j7 : Int64) (k2 : ClassId) (i5 i6 i7 : Int32) (h0 : Heap) (n0 : Nat) (Z0 : n0 ≤ h0.size) (E_o0 : Exa Z h0 o0 c0_) (g_o0 : n0 ≤ o0) (F_prices_o0 : Fld Z h0 o0 c0_ "prices" "[J" (.ref o2)) (F_sizes_o0 : Fld Z h0 o0 c0_ "sizes" "[J" (.ref o3)) (F_left_o0 : Fld Z h0 o0 c0_ "left" "[I" (.ref o4)) (F_right_o0 : Fld Z h0 o0 c0_ "right" "[I" (.ref o5)) (F_heights_o0 : Fld Z h0 o0 c0_ "heights" "[B" (.ref o6)) (F_root_o0 : Fld Z h0 o0 c0_ "root" "I" (.int (1 : Int32))) (F_best_o0 : Fld Z h0 o0 c0_ "best" "I" (.int i0)) (F_unused_o0 : Fld Z h0 o0 c0_ "unused" "I" (.int i1)) (F_free_o0 : Fld Z h0 o0 c0_ "free" "I" (.int i2)) (F_count_o0 : Fld Z h0 o0 c0_ "count" "I" (.int i3)) (F_highestFirst_o0 : Fld Z h0 o0 c0_ "highestFirst" "Z" (.int i4)) (V_o2 : Arv Z h0 o2 k0 .long (8 : Int32) [(.long j2), (.long j3), (.long j4)] oY) (g_o3 : n0 ≤ o3) (V_o3 : Arv Z h0 o3 k1 .long (8 : Int32) [(.long j5), (.long j6), (.long j7)] oY) (V_o4 : Arv Z h0 o4 k2 .int (8 : Int32) [(.int i5), (.int i6), (.int i7)] oZ) (hp0 : ¬ (j1 = (0 : Int64))) (hp1 : i2 = (0 : Int32)) (hp2 : ¬ (i1 = (8 : Int32))) (hp3 : (fcp j0 j3 i4) = (0 : Int32)) (ne_o2_o3 : o2 ≠ o3) (ne_o4_o3 : o4 ≠ o3) (hp4 : i6 = (0 : Int32)) :
    MetFree l y15_ (head1 (Jvm.Cond.code y15_ prog_3_method_4_code 5 none :: ws) (rM_ 3 0 0 50)) (fun a U => a = #[(.ref o0), (.long j0), (.long j1)] ∧ Z.Warmed39 U.vm ∧ U.heap = h0) (fun _ _ _ _ _ => True) (fun _ U o U' => ∃ v L, o = .returned v ∧ Q3_13 Z o0 j0 j1 o2 o3 o4 o5 o6 i0 i1 i2 i3 i4 k0 j2 j3 j4 k1 j5 j6 j7 k2 i5 i6 i7 h0 n0 v U'.heap L ∧ FrameEnd U o U' L (rM_ 3 0 0 50).cells (rM_ 3 0 0 50).slots) := by
  refine MetFree.of_bodySF (plainFor_of_name pn_3) hisR ?_
  intro p e s m args below meth c s₁ Bd hml0 hP hK
  obtain ⟨rfl, hZ, hh⟩ := hP
  have hx := Bd.exec
  have hby := Bd.bytes
  have hml : c.maxLocals = 5 := hml0
  have hown : s.vm.findClass c0_ = some m.cls := findClass_of_methodNamed Bd.named
  have hnm := (name_of_methodNamed Bd.named Bd.method).1
  have X0 : Stand p l e (rM_ 3 0 0 50) s m #[(.ref o0), (.long j0), (.long j1)] below meth c s₁ [] 0 0 := Stand.of_body Bd
  have e0 : s₁.heap = h0 := by rw [← hh, Bd.state]; rfl
  have N0 := Fr.nil n0
  have K0 : Keep h0 h0 [o3, o0] := Keep.refl h0 _
  change own_Go p e below (own_Post s (Q3_13 Z o0 j0 j1 o2 o3 o4 o5 o6 i0 i1 i2 i3 i4 k0 j2 j3 j4 k1 j5 j6 j7 k2 i5 i6 i7 h0 n0) (rM_ 3 0 0 50).cells (rM_ 3 0 0 50).slots) (s₁.setTop (entryFrame m #[(.ref o0), (.long j0), (.long j1)] 5))
  refine own_by (fun t k => castTop (ef_3 m o0 j0 j1) k) ?_
  show own_Go p e below _ (s₁.setTop (mkF m 0 (lA0_ o0 j0 j1) []))
  refine own_by (B := s₁.setTop (mkF m 23 (lA0_ o0 j0 j1) [(.ref o0)])) (fun t k => ?_) ?_
  · refine XS.lloadN X0.here hx rfl (hb hby d3_0) rfl ?_
    refine XS.lconst X0.here hx rfl (hb hby d3_1) ?_
    refine XS.lcmp X0.here hx rfl (hb hby d3_2) rfl ?_
    show Steps p.tables e below (s₁.setTop (mkF m 3 (lA0_ o0 j0 j1) [(.int (lcmpW j1 (0 : Int64)))])) _
    refine XS.ifYes X0.here hx rfl (pc0 := 3) (pc' := 22) rfl (hb hby d3_3) rfl ((if0 _ _).trans (feq (fun q => hp0 ((lw_eq _ _).mp q))).2) dE_ dE_ ?_
    show Steps p.tables e below (s₁.setTop (mkF m 22 (lA0_ o0 j0 j1) [])) _
    refine XS.aloadN X0.here hx rfl (hb hby d3_22) rfl rfl ?_
    exact k
  refine own_c1 (getF X0 hx hZ hown (host := "") (Or.inl (hW hw 29 rfl)) Via.refl e0 F_free_o0 rfl rfl (hb hby d3_23)) fun T1 X1 e1 => ?_
  show own_Go p e below _ (T1.setTop (mkF m 26 (lA0_ o0 j0 j1) [(.int i2)]))
  refine own_by (B := T1.setTop (mkF m 30 (lA0_ o0 j0 j1) [(.ref o0)])) (fun t k => ?_) ?_
  · refine XS.ifNo X1.here hx rfl (hb hby d3_26) rfl ((if0 _ _).trans (teq hp1).2) ?_
    show Steps p.tables e below (T1.setTop (mkF m 29 (lA0_ o0 j0 j1) [])) _
    refine XS.aloadN X1.here hx rfl (hb hby d3_29) rfl rfl ?_
    exact k
  refine own_c1 (getF X1 hx hZ hown (host := "") (Or.inl (hW hw 27 rfl)) Via.refl e1 F_unused_o0 rfl rfl (hb hby d3_30)) fun T2 X2 e2 => ?_
  show own_Go p e below _ (T2.setTop (mkF m 33 (lA0_ o0 j0 j1) [(.int i1)]))
  refine own_by (B := T2.setTop (mkF m 34 (lA0_ o0 j0 j1) [(.ref o0), (.int i1)])) (fun t k => ?_) ?_
  · refine XS.aloadN X2.here hx rfl (hb hby d3_33) rfl rfl ?_
    exact k
  refine own_c1 (getF X2 hx hZ hown (host := "") (Or.inl (hW hw 11 rfl)) Via.refl e2 F_prices_o0 rfl rfl (hb hby d3_34)) fun T3 X3 e3 => ?_
  show own_Go p e below _ (T3.setTop (mkF m 37 (lA0_ o0 j0 j1) [(.ref o2), (.int i1)]))
  refine own_by (B := T3.setTop (mkF m 48 (lA0_ o0 j0 j1) [(.ref o0), (.ref o0), (.ref o0)])) (fun t k => ?_) ?_
  · obtain ⟨cl4, Ar4, -, S4, N4, -, -⟩ := id V_o2
    refine X3.arraylength hx (by rw [show T3.heap = h0 from e3]; exact Ar4.1) (State.isArrayOf_alike hZ.alike Ar4.2.1) (g := (mkF m 37 (lA0_ o0 j0 j1) [(.ref o2), (.int i1)])) rfl rfl (hb hby d3_37) _ ?_
    rw [len_of S4 N4]
    show Steps p.tables e below (T3.setTop (mkF m 38 (lA0_ o0 j0 j1) [(.int (8 : Int32)), (.int i1)])) _
    refine XS.icmpYes X3.here hx rfl (pc0 := 38) (pc' := 45) rfl (hb hby d3_38) rfl (feq hp2).2 dE_ dE_ ?_
    show Steps p.tables e below (T3.setTop (mkF m 45 (lA0_ o0 j0 j1) [])) _
    refine XS.aloadN X3.here hx rfl (hb hby d3_45) rfl rfl ?_
    refine XS.aloadN X3.here hx rfl (hb hby d3_46) rfl rfl ?_
    refine XS.aloadN X3.here hx rfl (hb hby d3_47) rfl rfl ?_
    exact k
  refine own_c1 (getF X3 hx hZ hown (host := "") (Or.inl (hW hw 23 rfl)) Via.refl e3 F_root_o0 rfl rfl (hb hby d3_48)) fun T5 X5 e5 => ?_
  show own_Go p e below _ (T5.setTop (mkF m 51 (lA0_ o0 j0 j1) [(.int (1 : Int32)), (.ref o0), (.ref o0)]))
  refine own_by (B := T5.setTop (mkF m 53 (lA0_ o0 j0 j1) [(.long j1), (.long j0), (.int (1 : Int32)), (.ref o0), (.ref o0)])) (fun t k => ?_) ?_
  · refine XS.lloadN X5.here hx rfl (hb hby d3_51) rfl ?_
    refine XS.lloadN X5.here hx rfl (hb hby d3_52) rfl ?_
    exact k
  refine own_cc (own_callP X5 hx hZ (y := y14_) hown (hW hw 38 rfl) (hW hw 39 rfl) (hW hw 3 rfl) (hW hw 41 rfl) (hW hw 40 rfl) (hW hw 2 rfl) dE_ (rm4_12 l Z a0 hw [] o0 j0 j1 o2 o3 i4 k0 j2 j3 j4 k1 j5 j6 j7 h0 n0 Z0 E_o0 F_prices_o0 F_sizes_o0 F_highestFirst_o0 V_o2 g_o3 V_o3 hp3 ne_o2_o3) e5 1 dE_ dE_ dE_ dE_ rfl (by rw [hml]; rfl) o0 E_o0 [(.int (1 : Int32)), (.long j0), (.long j1)] [(.ref o0)] rfl (lenOf pd_3 rfl) rfl (by show 2 * 0 + _ ≤ _; exact Nat.le_of_eq rfl) (hb hby d3_53)) fun T7 L7 v7 X7 hQ7 => ?_
  obtain ⟨rfl, N7, K7, V_o3'⟩ := hQ7
  replace N0 := Fr.app N0 N7
  have nx1 : o0 ≠ o3 := (own_nev E_o0 (hW hw 2 rfl) V_o3)
  replace E_o0 := E_o0.keep K7
  replace F_prices_o0 := F_prices_o0.keep K7 (ninS nx1 nin0)
  replace F_sizes_o0 := F_sizes_o0.keep K7 (ninS nx1 nin0)
  replace F_left_o0 := F_left_o0.keep K7 (ninS nx1 nin0)
  replace F_right_o0 := F_right_o0.keep K7 (ninS nx1 nin0)
  replace F_heights_o0 := F_heights_o0.keep K7 (ninS nx1 nin0)
  replace F_root_o0 := F_root_o0.keep K7 (ninS nx1 nin0)
  replace F_best_o0 := F_best_o0.keep K7 (ninS nx1 nin0)
  replace F_unused_o0 := F_unused_o0.keep K7 (ninS nx1 nin0)
  replace F_free_o0 := F_free_o0.keep K7 (ninS nx1 nin0)
  replace F_count_o0 := F_count_o0.keep K7 (ninS nx1 nin0)
  replace F_highestFirst_o0 := F_highestFirst_o0.keep K7 (ninS nx1 nin0)
  replace V_o2 := V_o2.keep K7 (ninS ne_o2_o3 nin0)
  replace V_o4 := V_o4.keep K7 (ninS ne_o4_o3 nin0)
  replace K0 := K0.trans K7 (allS (Or.inl (List.mem_of_getElem? (i := 0) rfl)) all0)
  replace Z0 := Nat.le_trans Z0 K7.1
  have V_o3 := V_o3'
  show own_Go p e below _ (T7.setTop (mkF m 56 (lA0_ o0 j0 j1) [(.int (1 : Int32)), (.ref o0)]))
  refine own_c2 (putF X7 hx hZ hown (host := "") (Or.inl (hW hw 23 rfl)) Via.refl rfl F_root_o0 E_o0 (Or.inl (hW hw 24 rfl)) (hW hw 2 rfl) (ty := .int) dE_ rfl rfl rfl rfl (hb hby d3_56)) fun T8 h8 X8 e8 W8 => ?_
  replace F_root_o0 := F_root_o0.same W8
  have nx2 : o2 ≠ o0 := (Ne.symm (own_nev E_o0 (hW hw 2 rfl) V_o2))
  have nx3 : o4 ≠ o0 := (Ne.symm (own_nev E_o0 (hW hw 2 rfl) V_o4))
  replace E_o0 := E_o0.wr W8
  replace F_prices_o0 := F_prices_o0.other W8 (Or.inr (sn24 hw))
  replace F_sizes_o0 := F_sizes_o0.other W8 (Or.inr (sn25 hw))
  replace F_left_o0 := F_left_o0.other W8 (Or.inr (sn26 hw))
  replace F_right_o0 := F_right_o0.other W8 (Or.inr (sn27 hw))
  replace F_heights_o0 := F_heights_o0.other W8 (Or.inr (sn28 hw))
  replace F_best_o0 := F_best_o0.other W8 (Or.inr (sn29 hw))
  replace F_unused_o0 := F_unused_o0.other W8 (Or.inr (sn30 hw))
  replace F_free_o0 := F_free_o0.other W8 (Or.inr (sn31 hw))
  replace F_count_o0 := F_count_o0.other W8 (Or.inr (sn32 hw))
  replace F_highestFirst_o0 := F_highestFirst_o0.other W8 (Or.inr (sn33 hw))
  replace V_o2 := V_o2.other W8 nx2
  replace V_o4 := V_o4.other W8 nx3
  replace V_o3 := V_o3.other W8 (Ne.symm nx1)
  replace K0 := K0.wr W8 (Or.inl (List.mem_of_getElem? (i := 1) rfl))
  replace Z0 := Nat.le_trans Z0 (Keep.of_wr W8).1
  replace N0 := Fr.snoc X8 N0 g_o0
  show own_Go p e below _ (T8.setTop (mkF m 59 (lA0_ o0 j0 j1) []))
  refine own_by (B := T8.setTop (mkF m 61 (lA0_ o0 j0 j1) [(.ref o0), (.ref o0)])) (fun t k => ?_) ?_
  · refine XS.aloadN X8.here hx rfl (hb hby d3_59) rfl rfl ?_
    refine XS.aloadN X8.here hx rfl (hb hby d3_60) rfl rfl ?_
    exact k
  refine own_c1 (getF X8 hx hZ hown (host := "") (Or.inl (hW hw 23 rfl)) Via.refl e8 F_root_o0 rfl rfl (hb hby d3_61)) fun T9 X9 e9 => ?_
  show own_Go p e below _ (T9.setTop (mkF m 64 (lA0_ o0 j0 j1) [(.int (1 : Int32)), (.ref o0)]))
  refine own_c2 (putF X9 hx hZ hown (host := "") (Or.inl (hW hw 25 rfl)) Via.refl e9 F_best_o0 E_o0 (Or.inl (hW hw 26 rfl)) (hW hw 2 rfl) (ty := .int) dE_ rfl rfl rfl rfl (hb hby d3_64)) fun T10 h10 X10 e10 W10 => ?_
  replace F_best_o0 := F_best_o0.same W10
  replace E_o0 := E_o0.wr W10
  replace F_prices_o0 := F_prices_o0.other W10 (Or.inr (sn34 hw))
  replace F_sizes_o0 := F_sizes_o0.other W10 (Or.inr (sn35 hw))
  replace F_left_o0 := F_left_o0.other W10 (Or.inr (sn36 hw))
  replace F_right_o0 := F_right_o0.other W10 (Or.inr (sn37 hw))
  replace F_heights_o0 := F_heights_o0.other W10 (Or.inr (sn38 hw))
  replace F_root_o0 := F_root_o0.other W10 (Or.inr (sn39 hw))
  replace F_unused_o0 := F_unused_o0.other W10 (Or.inr (sn40 hw))
  replace F_free_o0 := F_free_o0.other W10 (Or.inr (sn41 hw))
  replace F_count_o0 := F_count_o0.other W10 (Or.inr (sn42 hw))
  replace F_highestFirst_o0 := F_highestFirst_o0.other W10 (Or.inr (sn43 hw))
  replace V_o2 := V_o2.other W10 nx2
  replace V_o4 := V_o4.other W10 nx3
  replace V_o3 := V_o3.other W10 (Ne.symm nx1)
  replace K0 := K0.wr W10 (Or.inl (List.mem_of_getElem? (i := 1) rfl))
  replace Z0 := Nat.le_trans Z0 (Keep.of_wr W10).1
  replace N0 := Fr.snoc X10 N0 g_o0
  show own_Go p e below _ (T10.setTop (mkF m 67 (lA0_ o0 j0 j1) []))
  refine own_by (B := T10.setTop (mkF m 68 (lA0_ o0 j0 j1) [(.ref o0)])) (fun t k => ?_) ?_
  · refine XS.aloadN X10.here hx rfl (hb hby d3_67) rfl rfl ?_
    exact k
  refine own_c1 (getF X10 hx hZ hown (host := "") (Or.inl (hW hw 16 rfl)) Via.refl e10 F_left_o0 rfl rfl (hb hby d3_68)) fun T11 X11 e11 => ?_
  show own_Go p e below _ (T11.setTop (mkF m 71 (lA0_ o0 j0 j1) [(.ref o4)]))
  refine own_by (B := T11.setTop (mkF m 72 (lA0_ o0 j0 j1) [(.ref o0), (.ref o4)])) (fun t k => ?_) ?_
  · refine XS.aloadN X11.here hx rfl (hb hby d3_71) rfl rfl ?_
    exact k
  refine own_c1 (getF X11 hx hZ hown (host := "") (Or.inl (hW hw 25 rfl)) Via.refl e11 F_best_o0 rfl rfl (hb hby d3_72)) fun T12 X12 e12 => ?_
  show own_Go p e below _ (T12.setTop (mkF m 75 (lA0_ o0 j0 j1) [(.int (1 : Int32)), (.ref o4)]))
  refine own_by (B := T12.setTop (mkF m 95 (lA0_ o0 j0 j1) [])) (fun t k => ?_) ?_
  · obtain ⟨cl13, Ar13, q13, S13, N13, H13, G13⟩ := id V_o4
    have hin13 : ¬ ((1 : Int32) < 0 ∨ cl13.slots.size ≤ ((1 : Int32)).toNatClampNeg) := inb_of S13 ⟨by decide, by decide⟩
    have hat13 : cl13.slots[((1 : Int32)).toNatClampNeg]? = some (.int i6) := H13.at hin13 rfl
    refine X12.iaload hx (j := (1 : Int32)) (v := (.int i6)) (by rw [show T12.heap = h10 from e12]; exact Ar13.1) (State.isArrayOf_alike hZ.alike Ar13.2.1) Ar13.2.2 hin13 hat13 (g := (mkF m 75 (lA0_ o0 j0 j1) [(.int (1 : Int32)), (.ref o4)])) rfl rfl (hb hby d3_75) _ ?_
    show Steps p.tables e below (T12.setTop (mkF m 76 (lA0_ o0 j0 j1) [(.int i6)])) _
    refine XS.ifYes X12.here hx rfl (pc0 := 76) (pc' := 95) rfl (hb hby d3_76) rfl ((if0 _ _).trans (teq hp4).1) dE_ dE_ ?_
    show Steps p.tables e below (T12.setTop (mkF m 95 (lA0_ o0 j0 j1) [])) _
    exact k
  exact own_retV X12 Bd.notSynchronized hx Bd.returns (hb hby d3_95) (by
      try rw [show T12.heap = h10 from e12]
      exact ⟨rfl, N0, K0, V_o3, E_o0, F_prices_o0, F_sizes_o0, F_left_o0, F_right_o0, F_heights_o0, F_root_o0, F_best_o0, F_unused_o0, F_free_o0, F_count_o0, F_highestFirst_o0⟩) dE_ dE_

theorem d15_8 : dC9_ 8 (.aload_n 0, 1) := by decide +kernel
theorem d15_9 : dC9_ 9 (.iload_n 1, 1) := by decide +kernel
theorem d15_10 : dC9_ 10 (.anewarray 7, 3) := by decide +kernel
theorem d15_13 : dC9_ 13 (.putfield 9, 3) := by decide +kernel
theorem d15_16 : dC9_ 16 (.goto 44, 3) := by decide +kernel
def Q15_14 (Z : State) (o0 : Addr) (i0 i1 : Int32) (h0 : Heap) (n0 : Nat) (v : Option Value) (h : Heap) (L : List Loc) : Prop := ∃ b3 : Addr, ∃ k3 : ClassId, v = none ∧ Fr n0 L ∧ Keep h0 h [o0] ∧ Exa Z h o0 c1_ ∧ Fld Z h o0 c6_ "modCount" "I" oZ ∧ Fld Z h o0 c1_ "elementData" c5_ (.ref b3) ∧ Fld Z h o0 c1_ "size" "I" (.int i1) ∧ Arv Z h b3 k3 (.object c3_) (1 : Int32) [] .null ∧ Ovr Z k3 c3_ ∧ h0.size ≤ b3
set_option maxRecDepth 65536 in
set_option maxHeartbeats 40000000 in
theorem rm15_14 (l : Launch) (Z : State) (a0 : Array Value) (hw : oW_ a0 Z) (ws : List Jvm.Cond) (o0 : Addr) (i0 i1 : Int32) (h0 : Heap) (n0 : Nat) (Z0 : n0 ≤ h0.size) (g_o0 : n0 ≤ o0) (E_o0 : Exa Z h0 o0 c1_) (F_modCount_o0 : Fld Z h0 o0 c6_ "modCount" "I" (.int i0)) (F_elementData_o0 : Fld Z h0 o0 c1_ "elementData" c5_ .null) (F_size_o0 : Fld Z h0 o0 c1_ "size" "I" (.int i1)) :
    MetFree l y9_ (head1 (Jvm.Cond.code y9_ jdk_38_method_1_code 2 none :: ws) (rM_ 3 1 1 36)) (fun a U => a = #[(.ref o0), (.int (1 : Int32))] ∧ Z.Warmed39 U.vm ∧ U.heap = h0) (fun _ _ _ _ _ => True) (fun _ U o U' => ∃ v L, o = .returned v ∧ Q15_14 Z o0 i0 i1 h0 n0 v U'.heap L ∧ FrameEnd U o U' L (rM_ 3 1 1 36).cells (rM_ 3 1 1 36).slots) := by
  refine MetFree.of_bodySF (plainFor_of_name pn_15) hisR ?_
  intro p e s m args below meth c s₁ Bd hml0 hP hK
  obtain ⟨rfl, hZ, hh⟩ := hP
  have hx := Bd.exec
  have hby := Bd.bytes
  have hml : c.maxLocals = 2 := hml0
  have hown : s.vm.findClass c1_ = some m.cls := findClass_of_methodNamed Bd.named
  have hnm := (name_of_methodNamed Bd.named Bd.method).1
  have X0 : Stand p l e (rM_ 3 1 1 36) s m #[(.ref o0), (.int (1 : Int32))] below meth c s₁ [] 0 0 := Stand.of_body Bd
  have e0 : s₁.heap = h0 := by rw [← hh, Bd.state]; rfl
  have N0 := Fr.nil n0
  have K0 : Keep h0 h0 [o0] := Keep.refl h0 _
  change own_Go p e below (own_Post s (Q15_14 Z o0 i0 i1 h0 n0) (rM_ 3 1 1 36).cells (rM_ 3 1 1 36).slots) (s₁.setTop (entryFrame m #[(.ref o0), (.int (1 : Int32))] 2))
  refine own_by (fun t k => castTop (ef_15 m o0 (1 : Int32)) k) ?_
  show own_Go p e below _ (s₁.setTop (mkF m 0 #[rv o0, iv (1 : Int32)] []))
  refine own_by (B := s₁.setTop (mkF m 1 #[rv o0, iv (1 : Int32)] [(.ref o0)])) (fun t k => ?_) ?_
  · refine XS.aloadN X0.here hx rfl (hb hby d15_0) rfl rfl ?_
    exact k
  refine own_cc (own_callI X0 hx hZ (y := y8_) rfl hown (hW hw 94 rfl) (hW hw 95 rfl) (hW hw 98 rfl) (hW hw 99 rfl) dE_ (rm16_4 l Z a0 hw [] o0 i0 i1 h0 n0 Z0 g_o0 E_o0 F_modCount_o0 F_elementData_o0 F_size_o0) e0 0 dE_ dE_ dE_ dE_ rfl (by rw [hml]; rfl) o0 [] [] rfl (lenOf pd_1 rfl) rfl (by show 2 * 0 + _ ≤ _; exact Nat.le_of_eq rfl) (hb hby d15_1)) fun T2 L2 v2 X2 hQ2 => ?_
  obtain ⟨rfl, N2, K2, E_o0', F_modCount_o0', F_elementData_o0', F_size_o0'⟩ := hQ2
  replace N0 := Fr.app N0 N2
  replace E_o0 := E_o0.keep K2
  replace K0 := K0.trans K2 (allS (Or.inl (List.mem_of_getElem? (i := 0) rfl)) all0)
  replace Z0 := Nat.le_trans Z0 K2.1
  replace E_o0 := E_o0'
  have F_modCount_o0 := F_modCount_o0'
  have F_elementData_o0 := F_elementData_o0'
  have F_size_o0 := F_size_o0'
  show own_Go p e below _ (T2.setTop (mkF m 4 #[rv o0, iv (1 : Int32)] []))
  refine own_by (B := T2.setTop (mkF m 10 #[rv o0, iv (1 : Int32)] [(.int (1 : Int32)), (.ref o0)])) (fun t k => ?_) ?_
  · refine XS.iloadN X2.here hx rfl (hb hby d15_4) rfl ?_
    refine XS.ifNo X2.here hx rfl (hb hby d15_5) rfl ((if0 _ _).trans (tlt (by decide : (0 : Int32) < (1 : Int32))).2.2.2) ?_
    show Steps p.tables e below (T2.setTop (mkF m 8 #[rv o0, iv (1 : Int32)] [])) _
    refine XS.aloadN X2.here hx rfl (hb hby d15_8) rfl rfl ?_
    refine XS.iloadN X2.here hx rfl (hb hby d15_9) rfl ?_
    exact k
  obtain ⟨T3, h3, k3, X3, e3, E3, A3, O3, st3⟩ := newR X2 hx hZ hown (hW hw 127 rfl) (hW hw 128 rfl) rfl (g := (mkF m 10 #[rv o0, iv (1 : Int32)] [(.int (1 : Int32)), (.ref o0)])) rfl (hb hby d15_10) rfl dE_ (cap := 1) dE_ dE_ dE_ dE_
  obtain ⟨b3, g3⟩ : ∃ z, z = T2.heap.size := ⟨_, rfl⟩
  rw [← g3] at A3 st3
  have g_b3 : n0 ≤ b3 := Nat.le_trans Z0 (Nat.le_of_eq g3.symm)
  have sz_b3 : h0.size ≤ b3 := Nat.le_trans K0.1 (Nat.le_of_eq g3.symm)
  have ne_o0_b3 : o0 ≠ b3 := Nat.ne_of_lt (Nat.lt_of_lt_of_le E_o0.lt (Nat.le_of_eq g3.symm))
  replace E_o0 := E_o0.ext E3
  replace F_modCount_o0 := F_modCount_o0.ext E3
  replace F_elementData_o0 := F_elementData_o0.ext E3
  replace F_size_o0 := F_size_o0.ext E3
  replace K0 := K0.ext E3
  replace Z0 := Nat.le_trans Z0 E3.1
  have V_b3 : Arv Z h3 b3 k3 (.object c3_) (1 : Int32) [] .null := Arv.new A3 dE_
  have Ov_k3 := O3
  refine own_by st3 ?_
  show own_Go p e below _ (T3.setTop (mkF m 13 #[rv o0, iv (1 : Int32)] [(.ref b3), (.ref o0)]))
  refine own_c2 (putF X3 hx hZ hown (host := "") (Or.inl (hW hw 110 rfl)) Via.refl e3 F_elementData_o0 E_o0 (Or.inl (hW hw 111 rfl)) (hW hw 89 rfl) (ty := (.array (.object c3_))) dE_ rfl rfl rfl rfl (hb hby d15_13)) fun T4 h4 X4 e4 W4 => ?_
  replace F_elementData_o0 := F_elementData_o0.same W4
  replace E_o0 := E_o0.wr W4
  replace F_modCount_o0 := F_modCount_o0.other W4 (Or.inr (sn2 hw))
  replace F_size_o0 := F_size_o0.other W4 (Or.inr (sn3 hw))
  replace V_b3 := V_b3.other W4 (Ne.symm ne_o0_b3)
  replace K0 := K0.wr W4 (Or.inl (List.mem_of_getElem? (i := 0) rfl))
  replace Z0 := Nat.le_trans Z0 (Keep.of_wr W4).1
  replace N0 := Fr.snoc X4 N0 g_o0
  show own_Go p e below _ (T4.setTop (mkF m 16 #[rv o0, iv (1 : Int32)] []))
  refine own_by (B := T4.setTop (mkF m 60 #[rv o0, iv (1 : Int32)] [])) (fun t k => ?_) ?_
  · refine XS.goto X4.here hx rfl (pc0 := 16) (pc' := 60) rfl (hb hby d15_16) dE_ dE_ ?_
    show Steps p.tables e below (T4.setTop (mkF m 60 #[rv o0, iv (1 : Int32)] [])) _
    exact k
  exact own_retV X4 Bd.notSynchronized hx Bd.returns (hb hby d15_60) (by
      try rw [show T4.heap = h4 from e4]
      exact ⟨b3, k3, rfl, N0, K0, E_o0, F_modCount_o0, F_elementData_o0, F_size_o0, V_b3, Ov_k3, sz_b3⟩) dE_ dE_

theorem d21_0 : dC16_ 0 (.aload_n 0, 1) := by decide +kernel
theorem d21_1 : dC16_ 1 (.invokespecial 1, 3) := by decide +kernel
theorem d21_4 : dC16_ 4 (.return_, 1) := by decide +kernel
theorem pn_21 : plainName "java/lang/Record" = true := by first | (simp [plainName, overriddenIn]; done) | decide +kernel
theorem ef_21 (m : MethodId) (x0 : Addr) : entryFrame m #[(.ref x0)] 1 = mkF m 0 #[rv x0] [] := by first | (simp [entryFrame, mkF, argsToLocals, Value.category]; done) | rfl
def Q21_15 (Z : State) (o0 : Addr) (h0 : Heap) (n0 : Nat) (v : Option Value) (h : Heap) (L : List Loc) : Prop := v = none ∧ Fr n0 L ∧ h = h0
set_option maxRecDepth 65536 in
set_option maxHeartbeats 40000000 in
theorem rm21_15 (l : Launch) (Z : State) (a0 : Array Value) (hw : oW_ a0 Z) (ws : List Jvm.Cond) (o0 : Addr) (h0 : Heap) (n0 : Nat) (Z0 : n0 ≤ h0.size) :
    MetFree l y16_ (head1 (Jvm.Cond.code y16_ jdk_30_method_1_code 1 none :: ws) (rM_ 1 0 0 12)) (fun a U => a = #[(.ref o0)] ∧ Z.Warmed39 U.vm ∧ U.heap = h0) (fun _ _ _ _ _ => True) (fun _ U o U' => ∃ v L, o = .returned v ∧ Q21_15 Z o0 h0 n0 v U'.heap L ∧ FrameEnd U o U' L (rM_ 1 0 0 12).cells (rM_ 1 0 0 12).slots) := by
  refine MetFree.of_bodySF (plainFor_of_name pn_21) hisR ?_
  intro p e s m args below meth c s₁ Bd hml0 hP hK
  obtain ⟨rfl, hZ, hh⟩ := hP
  have hx := Bd.exec
  have hby := Bd.bytes
  have hml : c.maxLocals = 1 := hml0
  have hown : s.vm.findClass c17_ = some m.cls := findClass_of_methodNamed Bd.named
  have hnm := (name_of_methodNamed Bd.named Bd.method).1
  have X0 : Stand p l e (rM_ 1 0 0 12) s m #[(.ref o0)] below meth c s₁ [] 0 0 := Stand.of_body Bd
  have e0 : s₁.heap = h0 := by rw [← hh, Bd.state]; rfl
  have N0 := Fr.nil n0
  change own_Go p e below (own_Post s (Q21_15 Z o0 h0 n0) (rM_ 1 0 0 12).cells (rM_ 1 0 0 12).slots) (s₁.setTop (entryFrame m #[(.ref o0)] 1))
  refine own_by (fun t k => castTop (ef_21 m o0) k) ?_
  show own_Go p e below _ (s₁.setTop (mkF m 0 #[rv o0] []))
  refine own_by (B := s₁.setTop (mkF m 1 #[rv o0] [(.ref o0)])) (fun t k => ?_) ?_
  · refine XS.aloadN X0.here hx rfl (hb hby d21_0) rfl rfl ?_
    exact k
  refine own_c1 (initO X0 hx hZ hown (hW hw 140 rfl) (hW hw 8 rfl) (hW hw 9 rfl) e0 rfl (by rw [hml]; rfl) rfl (hb hby d21_1) dE_ (W := 0) (by show 2 * 0 + _ ≤ _; exact Nat.le_of_eq rfl) dE_) fun T2 X2 e2 => ?_
  show own_Go p e below _ (T2.setTop (mkF m 4 #[rv o0] []))
  exact own_retV X2 Bd.notSynchronized hx Bd.returns (hb hby d21_4) (by
      try rw [show T2.heap = h0 from e2]
      exact ⟨rfl, N0, rfl⟩) dE_ dE_

theorem d20_0 : dC17_ 0 (.aload_n 0, 1) := by decide +kernel
theorem d20_1 : dC17_ 1 (.invokespecial 1, 3) := by decide +kernel
theorem d20_4 : dC17_ 4 (.aload_n 0, 1) := by decide +kernel
theorem d20_5 : dC17_ 5 (.lload_n 1, 1) := by decide +kernel
theorem d20_6 : dC17_ 6 (.putfield 7, 3) := by decide +kernel
theorem d20_9 : dC17_ 9 (.aload_n 0, 1) := by decide +kernel
theorem d20_10 : dC17_ 10 (.lload_n 3, 1) := by decide +kernel
theorem d20_11 : dC17_ 11 (.putfield 13, 3) := by decide +kernel
theorem d20_14 : dC17_ 14 (.return_, 1) := by decide +kernel
theorem pn_20 : plainName "com/example/tidebook/tidebook/model/PriceLevel" = true := by first | (simp [plainName, overriddenIn]; done) | decide +kernel
theorem ef_20 (m : MethodId) (x0 : Addr) (x1 x2 : Int64) : entryFrame m #[(.ref x0), (.long x1), (.long x2)] 5 = mkF m 0 (lA0_ x0 x1 x2) [] := by first | (simp [entryFrame, mkF, argsToLocals, Value.category]; done) | rfl
def Q20_16 (Z : State) (o0 : Addr) (j0 j1 : Int64) (j2 j3 : Int64) (h0 : Heap) (n0 : Nat) (v : Option Value) (h : Heap) (L : List Loc) : Prop := v = none ∧ Fr n0 L ∧ Keep h0 h [o0] ∧ Exa Z h o0 c2_ ∧ Fld Z h o0 c2_ "price" "J" (.long j0) ∧ Fld Z h o0 c2_ "size" "J" (.long j1)
set_option maxRecDepth 65536 in
set_option maxHeartbeats 40000000 in
theorem rm20_16 (l : Launch) (Z : State) (a0 : Array Value) (hw : oW_ a0 Z) (ws : List Jvm.Cond) (o0 : Addr) (j0 j1 : Int64) (j2 j3 : Int64) (h0 : Heap) (n0 : Nat) (Z0 : n0 ≤ h0.size) (g_o0 : n0 ≤ o0) (E_o0 : Exa Z h0 o0 c2_) (F_price_o0 : Fld Z h0 o0 c2_ "price" "J" (.long j2)) (F_size_o0 : Fld Z h0 o0 c2_ "size" "J" (.long j3)) :
    MetFree l y17_ (head1 (Jvm.Cond.code y17_ prog_52_method_1_code 5 none :: ws) (rM_ 2 0 0 24)) (fun a U => a = #[(.ref o0), (.long j0), (.long j1)] ∧ Z.Warmed39 U.vm ∧ U.heap = h0) (fun _ _ _ _ _ => True) (fun _ U o U' => ∃ v L, o = .returned v ∧ Q20_16 Z o0 j0 j1 j2 j3 h0 n0 v U'.heap L ∧ FrameEnd U o U' L (rM_ 2 0 0 24).cells (rM_ 2 0 0 24).slots) := by
  refine MetFree.of_bodySF (plainFor_of_name pn_20) hisR ?_
  intro p e s m args below meth c s₁ Bd hml0 hP hK
  obtain ⟨rfl, hZ, hh⟩ := hP
  have hx := Bd.exec
  have hby := Bd.bytes
  have hml : c.maxLocals = 5 := hml0
  have hown : s.vm.findClass c2_ = some m.cls := findClass_of_methodNamed Bd.named
  have hnm := (name_of_methodNamed Bd.named Bd.method).1
  have X0 : Stand p l e (rM_ 2 0 0 24) s m #[(.ref o0), (.long j0), (.long j1)] below meth c s₁ [] 0 0 := Stand.of_body Bd
  have e0 : s₁.heap = h0 := by rw [← hh, Bd.state]; rfl
  have N0 := Fr.nil n0
  have K0 : Keep h0 h0 [o0] := Keep.refl h0 _
  change own_Go p e below (own_Post s (Q20_16 Z o0 j0 j1 j2 j3 h0 n0) (rM_ 2 0 0 24).cells (rM_ 2 0 0 24).slots) (s₁.setTop (entryFrame m #[(.ref o0), (.long j0), (.long j1)] 5))
  refine own_by (fun t k => castTop (ef_20 m o0 j0 j1) k) ?_
  show own_Go p e below _ (s₁.setTop (mkF m 0 (lA0_ o0 j0 j1) []))
  refine own_by (B := s₁.setTop (mkF m 1 (lA0_ o0 j0 j1) [(.ref o0)])) (fun t k => ?_) ?_
  · refine XS.aloadN X0.here hx rfl (hb hby d20_0) rfl rfl ?_
    exact k
  refine own_cc (own_callI X0 hx hZ (y := y16_) rfl hown (hW hw 135 rfl) (hW hw 136 rfl) (hW hw 138 rfl) (hW hw 139 rfl) dE_ (rm21_15 l Z a0 hw [] o0 h0 n0 Z0 ) e0 0 dE_ dE_ dE_ dE_ rfl (by rw [hml]; rfl) o0 [] [] rfl (lenOf pd_1 rfl) rfl (by show 2 * 0 + _ ≤ _; exact Nat.le_of_eq rfl) (hb hby d20_1)) fun T2 L2 v2 X2 hQ2 => ?_
  obtain ⟨rfl, N2, e2⟩ := hQ2
  replace N0 := Fr.app N0 N2
  show own_Go p e below _ (T2.setTop (mkF m 4 (lA0_ o0 j0 j1) []))
  refine own_by (B := T2.setTop (mkF m 6 (lA0_ o0 j0 j1) [(.long j0), (.ref o0)])) (fun t k => ?_) ?_
  · refine XS.aloadN X2.here hx rfl (hb hby d20_4) rfl rfl ?_
    refine XS.lloadN X2.here hx rfl (hb hby d20_5) rfl ?_
    exact k
  refine own_c2 (putF X2 hx hZ hown (host := "") (Or.inl (hW hw 141 rfl)) Via.refl e2 F_price_o0 E_o0 (Or.inr ⟨(hW hw 142 rfl), rfl, hnm⟩) (hW hw 130 rfl) (ty := .long) dE_ rfl rfl rfl rfl (hb hby d20_6)) fun T3 h3 X3 e3 W3 => ?_
  replace F_price_o0 := F_price_o0.same W3
  replace E_o0 := E_o0.wr W3
  replace F_size_o0 := F_size_o0.other W3 (Or.inr (sn44 hw))
  replace K0 := K0.wr W3 (Or.inl (List.mem_of_getElem? (i := 0) rfl))
  replace Z0 := Nat.le_trans Z0 (Keep.of_wr W3).1
  replace N0 := Fr.snoc X3 N0 g_o0
  show own_Go p e below _ (T3.setTop (mkF m 9 (lA0_ o0 j0 j1) []))
  refine own_by (B := T3.setTop (mkF m 11 (lA0_ o0 j0 j1) [(.long j1), (.ref o0)])) (fun t k => ?_) ?_
  · refine XS.aloadN X3.here hx rfl (hb hby d20_9) rfl rfl ?_
    refine XS.lloadN X3.here hx rfl (hb hby d20_10) rfl ?_
    exact k
  refine own_c2 (putF X3 hx hZ hown (host := "") (Or.inl (hW hw 143 rfl)) Via.refl e3 F_size_o0 E_o0 (Or.inr ⟨(hW hw 144 rfl), rfl, hnm⟩) (hW hw 130 rfl) (ty := .long) dE_ rfl rfl rfl rfl (hb hby d20_11)) fun T4 h4 X4 e4 W4 => ?_
  replace F_size_o0 := F_size_o0.same W4
  replace E_o0 := E_o0.wr W4
  replace F_price_o0 := F_price_o0.other W4 (Or.inr (sn45 hw))
  replace K0 := K0.wr W4 (Or.inl (List.mem_of_getElem? (i := 0) rfl))
  replace Z0 := Nat.le_trans Z0 (Keep.of_wr W4).1
  replace N0 := Fr.snoc X4 N0 g_o0
  show own_Go p e below _ (T4.setTop (mkF m 14 (lA0_ o0 j0 j1) []))
  exact own_retV X4 Bd.notSynchronized hx Bd.returns (hb hby d20_14) (by
      try rw [show T4.heap = h4 from e4]
      exact ⟨rfl, N0, K0, E_o0, F_price_o0, F_size_o0⟩) dE_ dE_

theorem d23_0 : dC18_ 0 (.iload_n 3, 1) := by decide +kernel
theorem d23_1 : dC18_ 1 (.aload_n 2, 1) := by decide +kernel
theorem d23_2 : dC18_ 2 (.arraylength, 1) := by decide +kernel
theorem d23_3 : dC18_ 3 (.if_icmp .ne 8, 3) := by decide +kernel
theorem d23_11 : dC18_ 11 (.aload_n 2, 1) := by decide +kernel
theorem d23_12 : dC18_ 12 (.iload_n 3, 1) := by decide +kernel
theorem d23_13 : dC18_ 13 (.aload_n 1, 1) := by decide +kernel
theorem d23_14 : dC18_ 14 (.aastore, 1) := by decide +kernel
theorem d23_15 : dC18_ 15 (.aload_n 0, 1) := by decide +kernel
theorem d23_16 : dC18_ 16 (.iload_n 3, 1) := by decide +kernel
theorem d23_17 : dC18_ 17 (.iconst 1, 1) := by decide +kernel
theorem d23_18 : dC18_ 18 (.iadd, 1) := by decide +kernel
theorem d23_19 : dC18_ 19 (.putfield 48, 3) := by decide +kernel
theorem d23_22 : dC18_ 22 (.return_, 1) := by decide +kernel
theorem pn_23 : plainName "java/util/ArrayList" = true := by first | (simp [plainName, overriddenIn]; done) | decide +kernel
theorem ef_23 (m : MethodId) (x0 x1 x2 : Addr) (x3 : Int32) : entryFrame m #[(.ref x0), (.ref x1), (.ref x2), (.int x3)] 4 = mkF m 0 #[rv x0, rv x1, rv x2, iv x3] [] := by first | (simp [entryFrame, mkF, argsToLocals, Value.category]; done) | rfl
def Q23_17 (Z : State) (o0 o1 o2 : Addr) (i0 i1 : Int32) (k0 : ClassId) (h0 : Heap) (n0 : Nat) (v : Option Value) (h : Heap) (L : List Loc) : Prop := v = none ∧ Fr n0 L ∧ Keep h0 h [o2, o0] ∧ Arv Z h o2 k0 (.object c3_) (1 : Int32) [(.ref o1)] .null ∧ Exa Z h o0 c1_ ∧ Fld Z h o0 c6_ "modCount" "I" (.int i0) ∧ Fld Z h o0 c1_ "elementData" c5_ (.ref o2) ∧ Fld Z h o0 c1_ "size" "I" (.int (1 : Int32))
set_option maxRecDepth 65536 in
set_option maxHeartbeats 40000000 in
theorem rm23_17 (l : Launch) (Z : State) (a0 : Array Value) (hw : oW_ a0 Z) (ws : List Jvm.Cond) (o0 o1 o2 : Addr) (i0 i1 : Int32) (k0 : ClassId) (h0 : Heap) (n0 : Nat) (Z0 : n0 ≤ h0.size) (g_o0 : n0 ≤ o0) (E_o0 : Exa Z h0 o0 c1_) (F_modCount_o0 : Fld Z h0 o0 c6_ "modCount" "I" (.int i0)) (F_elementData_o0 : Fld Z h0 o0 c1_ "elementData" c5_ (.ref o2)) (F_size_o0 : Fld Z h0 o0 c1_ "size" "I" (.int i1)) (E_o1 : Exa Z h0 o1 c2_) (g_o2 : n0 ≤ o2) (V_o2 : Arv Z h0 o2 k0 (.object c3_) (1 : Int32) [] .null) (Ov_k0 : Ovr Z k0 c3_) :
    MetFree l y18_ (head1 (Jvm.Cond.code y18_ jdk_38_method_24_code 4 none :: ws) (rM_ 0 0 0 0)) (fun a U => a = #[(.ref o0), (.ref o1), (.ref o2), oZ] ∧ Z.Warmed39 U.vm ∧ U.heap = h0) (fun _ _ _ _ _ => True) (fun _ U o U' => ∃ v L, o = .returned v ∧ Q23_17 Z o0 o1 o2 i0 i1 k0 h0 n0 v U'.heap L ∧ FrameEnd U o U' L (rM_ 0 0 0 0).cells (rM_ 0 0 0 0).slots) := by
  refine MetFree.of_bodySF (plainFor_of_name pn_23) hisR ?_
  intro p e s m args below meth c s₁ Bd hml0 hP hK
  obtain ⟨rfl, hZ, hh⟩ := hP
  have hx := Bd.exec
  have hby := Bd.bytes
  have hml : c.maxLocals = 4 := hml0
  have hown : s.vm.findClass c1_ = some m.cls := findClass_of_methodNamed Bd.named
  have hnm := (name_of_methodNamed Bd.named Bd.method).1
  have X0 : Stand p l e (rM_ 0 0 0 0) s m #[(.ref o0), (.ref o1), (.ref o2), oZ] below meth c s₁ [] 0 0 := Stand.of_body Bd
  have e0 : s₁.heap = h0 := by rw [← hh, Bd.state]; rfl
  have N0 := Fr.nil n0
  have K0 : Keep h0 h0 [o2, o0] := Keep.refl h0 _
  change own_Go p e below (own_Post s (Q23_17 Z o0 o1 o2 i0 i1 k0 h0 n0) (rM_ 0 0 0 0).cells (rM_ 0 0 0 0).slots) (s₁.setTop (entryFrame m #[(.ref o0), (.ref o1), (.ref o2), oZ] 4))
  refine own_by (fun t k => castTop (ef_23 m o0 o1 o2 (0 : Int32)) k) ?_
  show own_Go p e below _ (s₁.setTop (mkF m 0 #[rv o0, rv o1, rv o2, iv (0 : Int32)] []))
  refine own_by (B := s₁.setTop (mkF m 14 #[rv o0, rv o1, rv o2, iv (0 : Int32)] [(.ref o1), oZ, (.ref o2)])) (fun t k => ?_) ?_
  · refine XS.iloadN X0.here hx rfl (hb hby d23_0) rfl ?_
    refine XS.aloadN X0.here hx rfl (hb hby d23_1) rfl rfl ?_
    obtain ⟨cl1, Ar1, -, S1, N1, -, -⟩ := id V_o2
    refine X0.arraylength hx (by rw [show s₁.heap = h0 from e0]; exact Ar1.1) (State.isArrayOf_alike hZ.alike Ar1.2.1) (g := (mkF m 2 #[rv o0, rv o1, rv o2, iv (0 : Int32)] [(.ref o2), oZ])) rfl rfl (hb hby d23_2) _ ?_
    rw [len_of S1 N1]
    show Steps p.tables e below (s₁.setTop (mkF m 3 #[rv o0, rv o1, rv o2, iv (0 : Int32)] [(.int (1 : Int32)), oZ])) _
    refine XS.icmpYes X0.here hx rfl (pc0 := 3) (pc' := 11) rfl (hb hby d23_3) rfl (feq (by decide : ¬ ((0 : Int32) = (1 : Int32)))).2 dE_ dE_ ?_
    show Steps p.tables e below (s₁.setTop (mkF m 11 #[rv o0, rv o1, rv o2, iv (0 : Int32)] [])) _
    refine XS.aloadN X0.here hx rfl (hb hby d23_11) rfl rfl ?_
    refine XS.iloadN X0.here hx rfl (hb hby d23_12) rfl ?_
    refine XS.aloadN X0.here hx rfl (hb hby d23_13) rfl rfl ?_
    exact k
  replace V_o2 : Arv Z h0 o2 k0 (.object c3_) (1 : Int32) [.null] .null := V_o2.pad (pad_rep [] .null 1)
  have nx1 : o0 ≠ o2 := (own_nev E_o0 (hW hw 89 rfl) V_o2)
  obtain ⟨cl2, Ar2, q2, S2, N2, H2, G2⟩ := id V_o2
  have hin2 : ¬ ((0 : Int32) < 0 ∨ cl2.slots.size ≤ ((0 : Int32)).toNatClampNeg) := inb_of S2 ⟨by decide, by decide⟩
  refine own_c2 (stR X0 hx hZ e0 Ar2 (j := (0 : Int32)) hin2 rfl (Sto.ofV Ar2 q2 Ov_k0 (Ins.of_exa E_o1 (hW hw 160 rfl))) rfl rfl (hb hby d23_14)) fun T2 h2 X2 e2 W2 => ?_
  replace V_o2 : Arv Z h2 o2 k0 (.object c3_) (1 : Int32) [(.ref o1)] .null := Arv.set Ar2 q2 S2 N2 H2 G2 rfl W2 0 rfl nB_
  replace E_o0 := E_o0.wr W2
  replace F_modCount_o0 := F_modCount_o0.other W2 (Or.inl nx1)
  replace F_elementData_o0 := F_elementData_o0.other W2 (Or.inl nx1)
  replace F_size_o0 := F_size_o0.other W2 (Or.inl nx1)
  replace E_o1 := E_o1.wr W2
  replace K0 := K0.wr W2 (Or.inl (List.mem_of_getElem? (i := 0) rfl))
  replace Z0 := Nat.le_trans Z0 (Keep.of_wr W2).1
  replace N0 := Fr.snoc X2 N0 g_o2
  show own_Go p e below _ (T2.setTop (mkF m 15 #[rv o0, rv o1, rv o2, iv (0 : Int32)] []))
  refine own_by (B := T2.setTop (mkF m 19 #[rv o0, rv o1, rv o2, iv (0 : Int32)] [(.int (1 : Int32)), (.ref o0)])) (fun t k => ?_) ?_
  · refine XS.aloadN X2.here hx rfl (hb hby d23_15) rfl rfl ?_
    refine XS.iloadN X2.here hx rfl (hb hby d23_16) rfl ?_
    refine XS.iconst X2.here hx rfl (hb hby d23_17) ?_
    refine XS.iadd X2.here hx rfl (hb hby d23_18) rfl ?_
    show Steps p.tables e below (T2.setTop (mkF m 19 #[rv o0, rv o1, rv o2, iv (0 : Int32)] [(.int (1 : Int32)), (.ref o0)])) _
    exact k
  refine own_c2 (putF X2 hx hZ hown (host := "") (Or.inl (hW hw 125 rfl)) Via.refl e2 F_size_o0 E_o0 (Or.inl (hW hw 126 rfl)) (hW hw 89 rfl) (ty := .int) dE_ rfl rfl rfl rfl (hb hby d23_19)) fun T3 h3 X3 e3 W3 => ?_
  replace F_size_o0 := F_size_o0.same W3
  replace E_o0 := E_o0.wr W3
  replace F_modCount_o0 := F_modCount_o0.other W3 (Or.inr (sn46 hw))
  replace F_elementData_o0 := F_elementData_o0.other W3 (Or.inr (sn47 hw))
  replace E_o1 := E_o1.wr W3
  replace V_o2 := V_o2.other W3 (Ne.symm nx1)
  replace K0 := K0.wr W3 (Or.inl (List.mem_of_getElem? (i := 1) rfl))
  replace Z0 := Nat.le_trans Z0 (Keep.of_wr W3).1
  replace N0 := Fr.snoc X3 N0 g_o0
  show own_Go p e below _ (T3.setTop (mkF m 22 #[rv o0, rv o1, rv o2, iv (0 : Int32)] []))
  exact own_retV X3 Bd.notSynchronized hx Bd.returns (hb hby d23_22) (by
      try rw [show T3.heap = h3 from e3]
      exact ⟨rfl, N0, K0, V_o2, E_o0, F_modCount_o0, F_elementData_o0, F_size_o0⟩) dE_ dE_

theorem d22_0 : dC19_ 0 (.aload_n 0, 1) := by decide +kernel
theorem d22_1 : dC19_ 1 (.dup, 1) := by decide +kernel
theorem d22_2 : dC19_ 2 (.getfield 63, 3) := by decide +kernel
theorem d22_5 : dC19_ 5 (.iconst 1, 1) := by decide +kernel
theorem d22_6 : dC19_ 6 (.iadd, 1) := by decide +kernel
theorem d22_7 : dC19_ 7 (.putfield 63, 3) := by decide +kernel
theorem d22_10 : dC19_ 10 (.aload_n 0, 1) := by decide +kernel
theorem d22_11 : dC19_ 11 (.aload_n 1, 1) := by decide +kernel
theorem d22_12 : dC19_ 12 (.aload_n 0, 1) := by decide +kernel
theorem d22_13 : dC19_ 13 (.getfield 9, 3) := by decide +kernel
theorem d22_16 : dC19_ 16 (.aload_n 0, 1) := by decide +kernel
theorem d22_17 : dC19_ 17 (.getfield 48, 3) := by decide +kernel
theorem d22_20 : dC19_ 20 (.invokevirtual 131, 3) := by decide +kernel
theorem d22_23 : dC19_ 23 (.iconst 1, 1) := by decide +kernel
theorem d22_24 : dC19_ 24 (.ireturn, 1) := by decide +kernel
theorem pn_22 : plainName "java/util/ArrayList" = true := by first | (simp [plainName, overriddenIn]; done) | decide +kernel
theorem pd_13 : parseMethodDescriptor "(Ljava/lang/Object;[Ljava/lang/Object;I)V" = some ⟨[(.object "java/lang/Object"), (.array (.object "java/lang/Object")), .int], none⟩ := by decide +kernel
theorem ef_22 (m : MethodId) (x0 x1 : Addr) : entryFrame m #[(.ref x0), (.ref x1)] 2 = mkF m 0 #[rv x0, rv x1] [] := by first | (simp [entryFrame, mkF, argsToLocals, Value.category]; done) | rfl
def Q22_18 (Z : State) (o0 o1 o3 : Addr) (i0 : Int32) (k0 : ClassId) (h0 : Heap) (n0 : Nat) (v : Option Value) (h : Heap) (L : List Loc) : Prop := v = some (.int (1 : Int32)) ∧ Fr n0 L ∧ Keep h0 h [o0, o3] ∧ Exa Z h o0 c1_ ∧ Fld Z h o0 c6_ "modCount" "I" (.int (i0 + (1 : Int32))) ∧ Fld Z h o0 c1_ "elementData" c5_ (.ref o3) ∧ Fld Z h o0 c1_ "size" "I" (.int (1 : Int32)) ∧ Arv Z h o3 k0 (.object c3_) (1 : Int32) [(.ref o1)] .null
set_option maxRecDepth 65536 in
set_option maxHeartbeats 40000000 in
theorem rm22_18 (l : Launch) (Z : State) (a0 : Array Value) (hw : oW_ a0 Z) (ws : List Jvm.Cond) (o0 o1 o3 : Addr) (i0 : Int32) (k0 : ClassId) (h0 : Heap) (n0 : Nat) (Z0 : n0 ≤ h0.size) (g_o0 : n0 ≤ o0) (E_o0 : Exa Z h0 o0 c1_) (F_modCount_o0 : Fld Z h0 o0 c6_ "modCount" "I" (.int i0)) (F_elementData_o0 : Fld Z h0 o0 c1_ "elementData" c5_ (.ref o3)) (F_size_o0 : Fld Z h0 o0 c1_ "size" "I" oZ) (E_o1 : Exa Z h0 o1 c2_) (g_o3 : n0 ≤ o3) (V_o3 : Arv Z h0 o3 k0 (.object c3_) (1 : Int32) [] .null) (Ov_k0 : Ovr Z k0 c3_) :
    MetFree l y19_ (head1 (Jvm.Cond.code y19_ jdk_38_method_25_code 2 (some .boolean) :: ws) (rM_ 1 0 0 15)) (fun a U => a = #[(.ref o0), (.ref o1)] ∧ Z.Warmed39 U.vm ∧ U.heap = h0) (fun _ _ _ _ _ => True) (fun _ U o U' => ∃ v L, o = .returned v ∧ Q22_18 Z o0 o1 o3 i0 k0 h0 n0 v U'.heap L ∧ FrameEnd U o U' L (rM_ 1 0 0 15).cells (rM_ 1 0 0 15).slots) := by
  refine MetFree.of_bodySF (plainFor_of_name pn_22) hisR ?_
  intro p e s m args below meth c s₁ Bd hml0 hP hK
  obtain ⟨rfl, hZ, hh⟩ := hP
  have hx := Bd.exec
  have hby := Bd.bytes
  have hml : c.maxLocals = 2 := hml0
  have hown : s.vm.findClass c1_ = some m.cls := findClass_of_methodNamed Bd.named
  have hnm := (name_of_methodNamed Bd.named Bd.method).1
  have X0 : Stand p l e (rM_ 1 0 0 15) s m #[(.ref o0), (.ref o1)] below meth c s₁ [] 0 0 := Stand.of_body Bd
  have e0 : s₁.heap = h0 := by rw [← hh, Bd.state]; rfl
  have N0 := Fr.nil n0
  have K0 : Keep h0 h0 [o0, o3] := Keep.refl h0 _
  change own_Go p e below (own_Post s (Q22_18 Z o0 o1 o3 i0 k0 h0 n0) (rM_ 1 0 0 15).cells (rM_ 1 0 0 15).slots) (s₁.setTop (entryFrame m #[(.ref o0), (.ref o1)] 2))
  refine own_by (fun t k => castTop (ef_22 m o0 o1) k) ?_
  show own_Go p e below _ (s₁.setTop (mkF m 0 #[rv o0, rv o1] []))
  refine own_by (B := s₁.setTop (mkF m 2 #[rv o0, rv o1] [(.ref o0), (.ref o0)])) (fun t k => ?_) ?_
  · refine XS.aloadN X0.here hx rfl (hb hby d22_0) rfl rfl ?_
    refine XS.dup X0.here hx rfl (hb hby d22_1) rfl rfl ?_
    exact k
  refine own_c1 (getF X0 hx hZ hown (host := "") (Or.inl (hW hw 153 rfl)) (Via.of (hW hw 154 rfl)) e0 F_modCount_o0 rfl rfl (hb hby d22_2)) fun T1 X1 e1 => ?_
  show own_Go p e below _ (T1.setTop (mkF m 5 #[rv o0, rv o1] [(.int i0), (.ref o0)]))
  refine own_by (B := T1.setTop (mkF m 7 #[rv o0, rv o1] [(.int (i0 + (1 : Int32))), (.ref o0)])) (fun t k => ?_) ?_
  · refine XS.iconst X1.here hx rfl (hb hby d22_5) ?_
    refine XS.iadd X1.here hx rfl (hb hby d22_6) rfl ?_
    show Steps p.tables e below (T1.setTop (mkF m 7 #[rv o0, rv o1] [(.int (i0 + (1 : Int32))), (.ref o0)])) _
    exact k
  refine own_c2 (putF X1 hx hZ hown (host := "") (Or.inl (hW hw 153 rfl)) (Via.of (hW hw 154 rfl)) e1 F_modCount_o0 E_o0 (Or.inl (hW hw 108 rfl)) (hW hw 89 rfl) (ty := .int) dE_ rfl rfl rfl rfl (hb hby d22_7)) fun T2 h2 X2 e2 W2 => ?_
  replace F_modCount_o0 := F_modCount_o0.same W2
  have nx1 : o3 ≠ o0 := (Ne.symm (own_nev E_o0 (hW hw 89 rfl) V_o3))
  replace E_o0 := E_o0.wr W2
  replace F_elementData_o0 := F_elementData_o0.other W2 (Or.inr (sn0 hw))
  replace F_size_o0 := F_size_o0.other W2 (Or.inr (sn1 hw))
  replace E_o1 := E_o1.wr W2
  replace V_o3 := V_o3.other W2 nx1
  replace K0 := K0.wr W2 (Or.inl (List.mem_of_getElem? (i := 0) rfl))
  replace Z0 := Nat.le_trans Z0 (Keep.of_wr W2).1
  replace N0 := Fr.snoc X2 N0 g_o0
  show own_Go p e below _ (T2.setTop (mkF m 10 #[rv o0, rv o1] []))
  refine own_by (B := T2.setTop (mkF m 13 #[rv o0, rv o1] [(.ref o0), (.ref o1), (.ref o0)])) (fun t k => ?_) ?_
  · refine XS.aloadN X2.here hx rfl (hb hby d22_10) rfl rfl ?_
    refine XS.aloadN X2.here hx rfl (hb hby d22_11) rfl rfl ?_
    refine XS.aloadN X2.here hx rfl (hb hby d22_12) rfl rfl ?_
    exact k
  refine own_c1 (getF X2 hx hZ hown (host := "") (Or.inl (hW hw 110 rfl)) Via.refl e2 F_elementData_o0 rfl rfl (hb hby d22_13)) fun T3 X3 e3 => ?_
  show own_Go p e below _ (T3.setTop (mkF m 16 #[rv o0, rv o1] [(.ref o3), (.ref o1), (.ref o0)]))
  refine own_by (B := T3.setTop (mkF m 17 #[rv o0, rv o1] [(.ref o0), (.ref o3), (.ref o1), (.ref o0)])) (fun t k => ?_) ?_
  · refine XS.aloadN X3.here hx rfl (hb hby d22_16) rfl rfl ?_
    exact k
  refine own_c1 (getF X3 hx hZ hown (host := "") (Or.inl (hW hw 125 rfl)) Via.refl e3 F_size_o0 rfl rfl (hb hby d22_17)) fun T4 X4 e4 => ?_
  show own_Go p e below _ (T4.setTop (mkF m 20 #[rv o0, rv o1] [oZ, (.ref o3), (.ref o1), (.ref o0)]))
  refine own_cc (own_callP X4 hx hZ (y := y18_) hown (hW hw 155 rfl) (hW hw 156 rfl) (hW hw 90 rfl) (hW hw 159 rfl) (hW hw 157 rfl) (hW hw 89 rfl) dE_ (rm23_17 l Z a0 hw [] o0 o1 o3 (i0 + (1 : Int32)) (0 : Int32) k0 h2 n0 Z0 g_o0 E_o0 F_modCount_o0 F_elementData_o0 F_size_o0 E_o1 g_o3 V_o3 Ov_k0) e4 0 dE_ dE_ dE_ dE_ rfl (by rw [hml]; rfl) o0 E_o0 [(.ref o1), (.ref o3), oZ] [] rfl (lenOf pd_13 rfl) rfl (by show 2 * 0 + _ ≤ _; exact Nat.le_of_eq rfl) (hb hby d22_20)) fun T6 L6 v6 X6 hQ6 => ?_
  obtain ⟨rfl, N6, K6, V_o3', E_o0', F_modCount_o0', F_elementData_o0', F_size_o0'⟩ := hQ6
  replace N0 := Fr.app N0 N6
  replace E_o0 := E_o0.keep K6
  replace E_o1 := E_o1.keep K6
  replace K0 := K0.trans K6 (allS (Or.inl (List.mem_of_getElem? (i := 1) rfl)) (allS (Or.inl (List.mem_of_getElem? (i := 0) rfl)) all0))
  replace Z0 := Nat.le_trans Z0 K6.1
  have V_o3 := V_o3'
  replace E_o0 := E_o0'
  have F_modCount_o0 := F_modCount_o0'
  have F_elementData_o0 := F_elementData_o0'
  have F_size_o0 := F_size_o0'
  show own_Go p e below _ (T6.setTop (mkF m 23 #[rv o0, rv o1] []))
  refine own_by (B := T6.setTop (mkF m 24 #[rv o0, rv o1] [(.int (1 : Int32))])) (fun t k => ?_) ?_
  · refine XS.iconst X6.here hx rfl (hb hby d22_23) ?_
    exact k
  exact own_retN X6 Bd.notSynchronized hx (t := .boolean) Bd.returns (by simp) (hb hby d22_24) ⟨rfl, N0, K0, E_o0, F_modCount_o0, F_elementData_o0, F_size_o0, V_o3⟩ dE_ dE_

theorem d18_4 : dC10_ 4 (.aload_n 0, 1) := by decide +kernel
theorem d18_5 : dC10_ 5 (.aload_n 0, 1) := by decide +kernel
theorem d18_6 : dC10_ 6 (.getfield 18, 3) := by decide +kernel
theorem d18_9 : dC10_ 9 (.iload_n 1, 1) := by decide +kernel
theorem d18_10 : dC10_ 10 (.iaload, 1) := by decide +kernel
theorem d18_11 : dC10_ 11 (.aload_n 2, 1) := by decide +kernel
theorem d18_12 : dC10_ 12 (.invokevirtual 65, 3) := by decide +kernel
theorem d18_15 : dC10_ 15 (.aload_n 2, 1) := by decide +kernel
theorem d18_16 : dC10_ 16 (.new 69, 3) := by decide +kernel
theorem d18_19 : dC10_ 19 (.dup, 1) := by decide +kernel
theorem d18_20 : dC10_ 20 (.aload_n 0, 1) := by decide +kernel
theorem d18_21 : dC10_ 21 (.getfield 11, 3) := by decide +kernel
theorem d18_24 : dC10_ 24 (.iload_n 1, 1) := by decide +kernel
theorem d18_25 : dC10_ 25 (.laload, 1) := by decide +kernel
theorem d18_26 : dC10_ 26 (.aload_n 0, 1) := by decide +kernel
theorem d18_27 : dC10_ 27 (.getfield 15, 3) := by decide +kernel
theorem d18_30 : dC10_ 30 (.iload_n 1, 1) := by decide +kernel
theorem d18_31 : dC10_ 31 (.laload, 1) := by decide +kernel
theorem d18_32 : dC10_ 32 (.invokespecial 71, 3) := by decide +kernel
theorem d18_35 : dC10_ 35 (.invokeinterface 74 2, 5) := by decide +kernel
theorem d18_40 : dC10_ 40 (.pop, 1) := by decide +kernel
theorem d18_41 : dC10_ 41 (.aload_n 0, 1) := by decide +kernel
theorem d18_42 : dC10_ 42 (.aload_n 0, 1) := by decide +kernel
theorem d18_43 : dC10_ 43 (.getfield 22, 3) := by decide +kernel
theorem d18_46 : dC10_ 46 (.iload_n 1, 1) := by decide +kernel
theorem d18_47 : dC10_ 47 (.iaload, 1) := by decide +kernel
theorem d18_48 : dC10_ 48 (.aload_n 2, 1) := by decide +kernel
theorem d18_49 : dC10_ 49 (.invokevirtual 65, 3) := by decide +kernel
theorem pd_2 : parseMethodDescriptor "(JJ)V" = some ⟨[.long, .long], none⟩ := by decide +kernel
theorem pd_12 : parseMethodDescriptor "(Ljava/lang/Object;)Z" = some ⟨[(.object "java/lang/Object")], some .boolean⟩ := by decide +kernel
def Q18_19 (Z : State) (o0 o1 : Addr) (o3 o4 : Addr) (o5 o6 o8 : Addr) (i6 : Int32) (k0 : ClassId) (j0 j1 j2 : Int64) (k1 : ClassId) (j3 j4 j5 : Int64) (k2 : ClassId) (i7 i8 i9 : Int32) (k3 : ClassId) (i10 i11 i12 : Int32) (k5 : ClassId) (h0 : Heap) (n0 : Nat) (v : Option Value) (h : Heap) (L : List Loc) : Prop := ∃ b5 : Addr, v = none ∧ Fr n0 L ∧ Keep h0 h [o8, o1] ∧ Arv Z h o8 k5 (.object c3_) (1 : Int32) [(.ref b5)] .null ∧ Exa Z h o1 c1_ ∧ Fld Z h o1 c6_ "modCount" "I" (.int (i6 + (1 : Int32))) ∧ Fld Z h o1 c1_ "elementData" c5_ (.ref o8) ∧ Fld Z h o1 c1_ "size" "I" (.int (1 : Int32)) ∧ Exa Z h b5 c2_ ∧ Fld Z h b5 c2_ "price" "J" (.long j1) ∧ Fld Z h b5 c2_ "size" "J" (.long j4) ∧ h0.size ≤ b5
set_option maxRecDepth 65536 in
set_option maxHeartbeats 40000000 in
theorem rm18_19 (l : Launch) (Z : State) (a0 : Array Value) (hw : oW_ a0 Z) (ws : List Jvm.Cond) (o0 o1 : Addr) (o3 o4 : Addr) (o5 o6 o8 : Addr) (i6 : Int32) (k0 : ClassId) (j0 j1 j2 : Int64) (k1 : ClassId) (j3 j4 j5 : Int64) (k2 : ClassId) (i7 i8 i9 : Int32) (k3 : ClassId) (i10 i11 i12 : Int32) (k5 : ClassId) (h0 : Heap) (n0 : Nat) (Z0 : n0 ≤ h0.size) (E_o0 : Exa Z h0 o0 c0_) (F_prices_o0 : Fld Z h0 o0 c0_ "prices" "[J" (.ref o3)) (F_sizes_o0 : Fld Z h0 o0 c0_ "sizes" "[J" (.ref o4)) (F_left_o0 : Fld Z h0 o0 c0_ "left" "[I" (.ref o5)) (F_right_o0 : Fld Z h0 o0 c0_ "right" "[I" (.ref o6)) (g_o1 : n0 ≤ o1) (E_o1 : Exa Z h0 o1 c1_) (F_modCount_o1 : Fld Z h0 o1 c6_ "modCount" "I" (.int i6)) (F_elementData_o1 : Fld Z h0 o1 c1_ "elementData" c5_ (.ref o8)) (F_size_o1 : Fld Z h0 o1 c1_ "size" "I" oZ) (V_o3 : Arv Z h0 o3 k0 .long (8 : Int32) [(.long j0), (.long j1), (.long j2)] oY) (V_o4 : Arv Z h0 o4 k1 .long (8 : Int32) [(.long j3), (.long j4), (.long j5)] oY) (V_o5 : Arv Z h0 o5 k2 .int (8 : Int32) [(.int i7), (.int i8), (.int i9)] oZ) (V_o6 : Arv Z h0 o6 k3 .int (8 : Int32) [(.int i10), (.int i11), (.int i12)] oZ) (g_o8 : n0 ≤ o8) (V_o8 : Arv Z h0 o8 k5 (.object c3_) (1 : Int32) [] .null) (Ov_k5 : Ovr Z k5 c3_) (hp0 : i8 = (0 : Int32)) (ne_o3_o8 : o3 ≠ o8) (ne_o4_o8 : o4 ≠ o8) (ne_o5_o8 : o5 ≠ o8) (ne_o6_o8 : o6 ≠ o8) (hp1 : i11 = (0 : Int32)) :
    MetFree l y10_ (head1 (Jvm.Cond.code y10_ prog_3_method_7_code 3 none :: ws) (rM_ 3 1 2 42)) (fun a U => a = #[(.ref o0), (.int (1 : Int32)), (.ref o1)] ∧ Z.Warmed39 U.vm ∧ U.heap = h0) (fun _ _ _ _ _ => True) (fun _ U o U' => ∃ v L, o = .returned v ∧ Q18_19 Z o0 o1 o3 o4 o5 o6 o8 i6 k0 j0 j1 j2 k1 j3 j4 j5 k2 i7 i8 i9 k3 i10 i11 i12 k5 h0 n0 v U'.heap L ∧ FrameEnd U o U' L (rM_ 3 1 2 42).cells (rM_ 3 1 2 42).slots) := by
  refine MetFree.of_bodySF (plainFor_of_name pn_18) hisR ?_
  intro p e s m args below meth c s₁ Bd hml0 hP hK
  obtain ⟨rfl, hZ, hh⟩ := hP
  have hx := Bd.exec
  have hby := Bd.bytes
  have hml : c.maxLocals = 3 := hml0
  have hown : s.vm.findClass c0_ = some m.cls := findClass_of_methodNamed Bd.named
  have hnm := (name_of_methodNamed Bd.named Bd.method).1
  have X0 : Stand p l e (rM_ 3 1 2 42) s m #[(.ref o0), (.int (1 : Int32)), (.ref o1)] below meth c s₁ [] 0 0 := Stand.of_body Bd
  have e0 : s₁.heap = h0 := by rw [← hh, Bd.state]; rfl
  have N0 := Fr.nil n0
  have K0 : Keep h0 h0 [o8, o1] := Keep.refl h0 _
  change own_Go p e below (own_Post s (Q18_19 Z o0 o1 o3 o4 o5 o6 o8 i6 k0 j0 j1 j2 k1 j3 j4 j5 k2 i7 i8 i9 k3 i10 i11 i12 k5 h0 n0) (rM_ 3 1 2 42).cells (rM_ 3 1 2 42).slots) (s₁.setTop (entryFrame m #[(.ref o0), (.int (1 : Int32)), (.ref o1)] 3))
  refine own_by (fun t k => castTop (ef_18 m o0 (1 : Int32) o1) k) ?_
  show own_Go p e below _ (s₁.setTop (mkF m 0 #[rv o0, iv (1 : Int32), rv o1] []))
  refine own_by (B := s₁.setTop (mkF m 6 #[rv o0, iv (1 : Int32), rv o1] [(.ref o0), (.ref o0)])) (fun t k => ?_) ?_
  · refine XS.iloadN X0.here hx rfl (hb hby d18_0) rfl ?_
    refine XS.ifNo X0.here hx rfl (hb hby d18_1) rfl ((if0 _ _).trans (feq (by decide : ¬ ((1 : Int32) = (0 : Int32)))).1) ?_
    show Steps p.tables e below (s₁.setTop (mkF m 4 #[rv o0, iv (1 : Int32), rv o1] [])) _
    refine XS.aloadN X0.here hx rfl (hb hby d18_4) rfl rfl ?_
    refine XS.aloadN X0.here hx rfl (hb hby d18_5) rfl rfl ?_
    exact k
  refine own_c1 (getF X0 hx hZ hown (host := "") (Or.inl (hW hw 16 rfl)) Via.refl e0 F_left_o0 rfl rfl (hb hby d18_6)) fun T1 X1 e1 => ?_
  show own_Go p e below _ (T1.setTop (mkF m 9 #[rv o0, iv (1 : Int32), rv o1] [(.ref o5), (.ref o0)]))
  refine own_by (B := T1.setTop (mkF m 12 #[rv o0, iv (1 : Int32), rv o1] [(.ref o1), (.int i8), (.ref o0)])) (fun t k => ?_) ?_
  · refine XS.iloadN X1.here hx rfl (hb hby d18_9) rfl ?_
    obtain ⟨cl2, Ar2, q2, S2, N2, H2, G2⟩ := id V_o5
    have hin2 : ¬ ((1 : Int32) < 0 ∨ cl2.slots.size ≤ ((1 : Int32)).toNatClampNeg) := inb_of S2 ⟨by decide, by decide⟩
    have hat2 : cl2.slots[((1 : Int32)).toNatClampNeg]? = some (.int i8) := H2.at hin2 rfl
    refine X1.iaload hx (j := (1 : Int32)) (v := (.int i8)) (by rw [show T1.heap = h0 from e1]; exact Ar2.1) (State.isArrayOf_alike hZ.alike Ar2.2.1) Ar2.2.2 hin2 hat2 (g := (mkF m 10 #[rv o0, iv (1 : Int32), rv o1] [(.int (1 : Int32)), (.ref o5), (.ref o0)])) rfl rfl (hb hby d18_10) _ ?_
    show Steps p.tables e below (T1.setTop (mkF m 11 #[rv o0, iv (1 : Int32), rv o1] [(.int i8), (.ref o0)])) _
    refine XS.aloadN X1.here hx rfl (hb hby d18_11) rfl rfl ?_
    exact k
  refine own_cc (own_callP X1 hx hZ (y := y10_) hown (hW hw 112 rfl) (hW hw 113 rfl) (hW hw 3 rfl) (hW hw 115 rfl) (hW hw 114 rfl) (hW hw 2 rfl) dE_ (rm18_6 l Z a0 hw [] o0 i8 o1 h0 n0 Z0 hp0) e1 0 dE_ dE_ dE_ dE_ rfl (by rw [hml]; rfl) o0 E_o0 [(.int i8), (.ref o1)] [] rfl (lenOf pd_10 rfl) rfl (by show 2 * 0 + _ ≤ _; exact Nat.le_of_eq rfl) (hb hby d18_12)) fun T4 L4 v4 X4 hQ4 => ?_
  obtain ⟨rfl, N4, e4⟩ := hQ4
  replace N0 := Fr.app N0 N4
  show own_Go p e below _ (T4.setTop (mkF m 15 #[rv o0, iv (1 : Int32), rv o1] []))
  refine own_by (B := T4.setTop (mkF m 16 #[rv o0, iv (1 : Int32), rv o1] [(.ref o1)])) (fun t k => ?_) ?_
  · refine XS.aloadN X4.here hx rfl (hb hby d18_15) rfl rfl ?_
    exact k
  obtain ⟨T5, h5, X5, e5, E5, A5, D5, -, st5⟩ := newO X4 hx hZ hown (hW hw 129 rfl) (hW hw 130 rfl) (hW hw 131 rfl) e4 (g := (mkF m 16 #[rv o0, iv (1 : Int32), rv o1] [(.ref o1)])) rfl (hb hby d18_16) dE_ dE_
  obtain ⟨b5, g5⟩ : ∃ z, z = h0.size := ⟨_, rfl⟩
  rw [← g5] at A5 D5 st5
  have g_b5 : n0 ≤ b5 := Nat.le_trans Z0 (Nat.le_of_eq g5.symm)
  have sz_b5 : h0.size ≤ b5 := Nat.le_trans K0.1 (Nat.le_of_eq g5.symm)
  have ne_o0_b5 : o0 ≠ b5 := Nat.ne_of_lt (Nat.lt_of_lt_of_le E_o0.lt (Nat.le_of_eq g5.symm))
  have ne_o1_b5 : o1 ≠ b5 := Nat.ne_of_lt (Nat.lt_of_lt_of_le E_o1.lt (Nat.le_of_eq g5.symm))
  have ne_o3_b5 : o3 ≠ b5 := Nat.ne_of_lt (Nat.lt_of_lt_of_le V_o3.lt (Nat.le_of_eq g5.symm))
  have ne_o4_b5 : o4 ≠ b5 := Nat.ne_of_lt (Nat.lt_of_lt_of_le V_o4.lt (Nat.le_of_eq g5.symm))
  have ne_o5_b5 : o5 ≠ b5 := Nat.ne_of_lt (Nat.lt_of_lt_of_le V_o5.lt (Nat.le_of_eq g5.symm))
  have ne_o6_b5 : o6 ≠ b5 := Nat.ne_of_lt (Nat.lt_of_lt_of_le V_o6.lt (Nat.le_of_eq g5.symm))
  have ne_o8_b5 : o8 ≠ b5 := Nat.ne_of_lt (Nat.lt_of_lt_of_le V_o8.lt (Nat.le_of_eq g5.symm))
  replace E_o0 := E_o0.ext E5
  replace F_prices_o0 := F_prices_o0.ext E5
  replace F_sizes_o0 := F_sizes_o0.ext E5
  replace F_left_o0 := F_left_o0.ext E5
  replace F_right_o0 := F_right_o0.ext E5
  replace E_o1 := E_o1.ext E5
  replace F_modCount_o1 := F_modCount_o1.ext E5
  replace F_elementData_o1 := F_elementData_o1.ext E5
  replace F_size_o1 := F_size_o1.ext E5
  replace V_o3 := V_o3.ext E5
  replace V_o4 := V_o4.ext E5
  replace V_o5 := V_o5.ext E5
  replace V_o6 := V_o6.ext E5
  replace V_o8 := V_o8.ext E5
  replace K0 := K0.ext E5
  replace Z0 := Nat.le_trans Z0 E5.1
  have E_b5 := A5
  have F_price_b5 : Fld Z h5 b5 c2_ "price" "J" oY := D5 (Or.inr (hW hw 142 rfl)) (ty := .long) dE_
  have F_size_b5 : Fld Z h5 b5 c2_ "size" "J" oY := D5 (Or.inr (hW hw 144 rfl)) (ty := .long) dE_
  refine own_by st5 ?_
  show own_Go p e below _ (T5.setTop (mkF m 19 #[rv o0, iv (1 : Int32), rv o1] [(.ref b5), (.ref o1)]))
  refine own_by (B := T5.setTop (mkF m 21 #[rv o0, iv (1 : Int32), rv o1] [(.ref o0), (.ref b5), (.ref b5), (.ref o1)])) (fun t k => ?_) ?_
  · refine XS.dup X5.here hx rfl (hb hby d18_19) rfl rfl ?_
    refine XS.aloadN X5.here hx rfl (hb hby d18_20) rfl rfl ?_
    exact k
  refine own_c1 (getF X5 hx hZ hown (host := "") (Or.inl (hW hw 11 rfl)) Via.refl e5 F_prices_o0 rfl rfl (hb hby d18_21)) fun T6 X6 e6 => ?_
  show own_Go p e below _ (T6.setTop (mkF m 24 #[rv o0, iv (1 : Int32), rv o1] [(.ref o3), (.ref b5), (.ref b5), (.ref o1)]))
  refine own_by (B := T6.setTop (mkF m 27 #[rv o0, iv (1 : Int32), rv o1] [(.ref o0), (.long j1), (.ref b5), (.ref b5), (.ref o1)])) (fun t k => ?_) ?_
  · refine XS.iloadN X6.here hx rfl (hb hby d18_24) rfl ?_
    obtain ⟨cl7, Ar7, q7, S7, N7, H7, G7⟩ := id V_o3
    have hin7 : ¬ ((1 : Int32) < 0 ∨ cl7.slots.size ≤ ((1 : Int32)).toNatClampNeg) := inb_of S7 ⟨by decide, by decide⟩
    have hat7 : cl7.slots[((1 : Int32)).toNatClampNeg]? = some (.long j1) := H7.at hin7 rfl
    refine X6.laload hx (j := (1 : Int32)) (v := (.long j1)) (by rw [show T6.heap = h5 from e6]; exact Ar7.1) (State.isArrayOf_alike hZ.alike Ar7.2.1) Ar7.2.2 hin7 hat7 (g := (mkF m 25 #[rv o0, iv (1 : Int32), rv o1] [(.int (1 : Int32)), (.ref o3), (.ref b5), (.ref b5), (.ref o1)])) rfl rfl (hb hby d18_25) _ ?_
    show Steps p.tables e below (T6.setTop (mkF m 26 #[rv o0, iv (1 : Int32), rv o1] [(.long j1), (.ref b5), (.ref b5), (.ref o1)])) _
    refine XS.aloadN X6.here hx rfl (hb hby d18_26) rfl rfl ?_
    exact k
  refine own_c1 (getF X6 hx hZ hown (host := "") (Or.inl (hW hw 13 rfl)) Via.refl e6 F_sizes_o0 rfl rfl (hb hby d18_27)) fun T8 X8 e8 => ?_
  show own_Go p e below _ (T8.setTop (mkF m 30 #[rv o0, iv (1 : Int32), rv o1] [(.ref o4), (.long j1), (.ref b5), (.ref b5), (.ref o1)]))
  refine own_by (B := T8.setTop (mkF m 32 #[rv o0, iv (1 : Int32), rv o1] [(.long j4), (.long j1), (.ref b5), (.ref b5), (.ref o1)])) (fun t k => ?_) ?_
  · refine XS.iloadN X8.here hx rfl (hb hby d18_30) rfl ?_
    obtain ⟨cl9, Ar9, q9, S9, N9, H9, G9⟩ := id V_o4
    have hin9 : ¬ ((1 : Int32) < 0 ∨ cl9.slots.size ≤ ((1 : Int32)).toNatClampNeg) := inb_of S9 ⟨by decide, by decide⟩
    have hat9 : cl9.slots[((1 : Int32)).toNatClampNeg]? = some (.long j4) := H9.at hin9 rfl
    refine X8.laload hx (j := (1 : Int32)) (v := (.long j4)) (by rw [show T8.heap = h5 from e8]; exact Ar9.1) (State.isArrayOf_alike hZ.alike Ar9.2.1) Ar9.2.2 hin9 hat9 (g := (mkF m 31 #[rv o0, iv (1 : Int32), rv o1] [(.int (1 : Int32)), (.ref o4), (.long j1), (.ref b5), (.ref b5), (.ref o1)])) rfl rfl (hb hby d18_31) _ ?_
    show Steps p.tables e below (T8.setTop (mkF m 32 #[rv o0, iv (1 : Int32), rv o1] [(.long j4), (.long j1), (.ref b5), (.ref b5), (.ref o1)])) _
    exact k
  refine own_cc (own_callI X8 hx hZ (y := y17_) rfl hown (hW hw 132 rfl) (hW hw 133 rfl) (hW hw 131 rfl) (hW hw 134 rfl) dE_ (rm20_16 l Z a0 hw [] b5 j1 j4 (0 : Int64) (0 : Int64) h5 n0 Z0 g_b5 E_b5 F_price_b5 F_size_b5) e8 2 dE_ dE_ dE_ dE_ rfl (by rw [hml]; rfl) b5 [(.long j1), (.long j4)] [(.ref b5), (.ref o1)] rfl (lenOf pd_2 rfl) rfl (by show 2 * 0 + _ ≤ _; exact Nat.le_of_eq rfl) (hb hby d18_32)) fun T11 L11 v11 X11 hQ11 => ?_
  obtain ⟨rfl, N11, K11, E_b5', F_price_b5', F_size_b5'⟩ := hQ11
  replace N0 := Fr.app N0 N11
  replace E_o0 := E_o0.keep K11
  replace F_prices_o0 := F_prices_o0.keep K11 (ninS ne_o0_b5 nin0)
  replace F_sizes_o0 := F_sizes_o0.keep K11 (ninS ne_o0_b5 nin0)
  replace F_left_o0 := F_left_o0.keep K11 (ninS ne_o0_b5 nin0)
  replace F_right_o0 := F_right_o0.keep K11 (ninS ne_o0_b5 nin0)
  replace E_o1 := E_o1.keep K11
  replace F_modCount_o1 := F_modCount_o1.keep K11 (ninS ne_o1_b5 nin0)
  replace F_elementData_o1 := F_elementData_o1.keep K11 (ninS ne_o1_b5 nin0)
  replace F_size_o1 := F_size_o1.keep K11 (ninS ne_o1_b5 nin0)
  replace V_o3 := V_o3.keep K11 (ninS ne_o3_b5 nin0)
  replace V_o4 := V_o4.keep K11 (ninS ne_o4_b5 nin0)
  replace V_o5 := V_o5.keep K11 (ninS ne_o5_b5 nin0)
  replace V_o6 := V_o6.keep K11 (ninS ne_o6_b5 nin0)
  replace V_o8 := V_o8.keep K11 (ninS ne_o8_b5 nin0)
  replace E_b5 := E_b5.keep K11
  replace K0 := K0.trans K11 (allS (Or.inr sz_b5) all0)
  replace Z0 := Nat.le_trans Z0 K11.1
  replace E_b5 := E_b5'
  have F_price_b5 := F_price_b5'
  have F_size_b5 := F_size_b5'
  show own_Go p e below _ (T11.setTop (mkF m 35 #[rv o0, iv (1 : Int32), rv o1] [(.ref b5), (.ref o1)]))
  refine own_cc (own_callF X11 hx hZ (y := y20_) (z := y19_) hown (hW hw 145 rfl) (hW hw 146 rfl) (hW hw 147 rfl) (hW hw 148 rfl) (hW hw 149 rfl) (hW hw 150 rfl) (hW hw 151 rfl) (hW hw 123 rfl) (hW hw 90 rfl) (hW hw 152 rfl) dE_ (rm22_18 l Z a0 hw [] o1 b5 o8 i6 k5 T11.heap n0 Z0 g_o1 E_o1 F_modCount_o1 F_elementData_o1 F_size_o1 E_b5 g_o8 V_o8 Ov_k5) (rfl : T11.heap = _) 0 dE_ dE_ dE_ dE_ rfl (by rw [hml]; rfl) o1 E_o1 [(.ref b5)] [] rfl (lenOf pd_12 rfl) rfl (by show 2 * 0 + _ ≤ _; exact Nat.le_of_eq rfl) (hb hby d18_35)) fun T13 L13 v13 X13 hQ13 => ?_
  obtain ⟨rfl, N13, K13, E_o1', F_modCount_o1', F_elementData_o1', F_size_o1', V_o8'⟩ := hQ13
  replace N0 := Fr.app N0 N13
  have nx1 : o0 ≠ o1 := (ne_exa E_o0 E_o1 dE_)
  have nx2 : o0 ≠ o8 := (own_nev E_o0 (hW hw 2 rfl) V_o8)
  have nx3 : o3 ≠ o1 := (Ne.symm (own_nev E_o1 (hW hw 89 rfl) V_o3))
  have nx4 : o4 ≠ o1 := (Ne.symm (own_nev E_o1 (hW hw 89 rfl) V_o4))
  have nx5 : o5 ≠ o1 := (Ne.symm (own_nev E_o1 (hW hw 89 rfl) V_o5))
  have nx6 : o6 ≠ o1 := (Ne.symm (own_nev E_o1 (hW hw 89 rfl) V_o6))
  replace E_o0 := E_o0.keep K13
  replace F_prices_o0 := F_prices_o0.keep K13 (ninS nx1 (ninS nx2 nin0))
  replace F_sizes_o0 := F_sizes_o0.keep K13 (ninS nx1 (ninS nx2 nin0))
  replace F_left_o0 := F_left_o0.keep K13 (ninS nx1 (ninS nx2 nin0))
  replace F_right_o0 := F_right_o0.keep K13 (ninS nx1 (ninS nx2 nin0))
  replace E_o1 := E_o1.keep K13
  replace V_o3 := V_o3.keep K13 (ninS nx3 (ninS ne_o3_o8 nin0))
  replace V_o4 := V_o4.keep K13 (ninS nx4 (ninS ne_o4_o8 nin0))
  replace V_o5 := V_o5.keep K13 (ninS nx5 (ninS ne_o5_o8 nin0))
  replace V_o6 := V_o6.keep K13 (ninS nx6 (ninS ne_o6_o8 nin0))
  replace E_b5 := E_b5.keep K13
  replace F_price_b5 := F_price_b5.keep K13 (ninS (Ne.symm ne_o1_b5) (ninS (Ne.symm ne_o8_b5) nin0))
  replace F_size_b5 := F_size_b5.keep K13 (ninS (Ne.symm ne_o1_b5) (ninS (Ne.symm ne_o8_b5) nin0))
  replace K0 := K0.trans K13 (allS (Or.inl (List.mem_of_getElem? (i := 1) rfl)) (allS (Or.inl (List.mem_of_getElem? (i := 0) rfl)) all0))
  replace Z0 := Nat.le_trans Z0 K13.1
  replace E_o1 := E_o1'
  have F_modCount_o1 := F_modCount_o1'
  have F_elementData_o1 := F_elementData_o1'
  have F_size_o1 := F_size_o1'
  have V_o8 := V_o8'
  show own_Go p e below _ (T13.setTop (mkF m 40 #[rv o0, iv (1 : Int32), rv o1] [(.int (1 : Int32))]))
  refine own_by (B := T13.setTop (mkF m 43 #[rv o0, iv (1 : Int32), rv o1] [(.ref o0), (.ref o0)])) (fun t k => ?_) ?_
  · refine XS.pop X13.here hx rfl (hb hby d18_40) rfl rfl ?_
    show Steps p.tables e below (T13.setTop (mkF m 41 #[rv o0, iv (1 : Int32), rv o1] [])) _
    refine XS.aloadN X13.here hx rfl (hb hby d18_41) rfl rfl ?_
    refine XS.aloadN X13.here hx rfl (hb hby d18_42) rfl rfl ?_
    exact k
  refine own_c1 (getF X13 hx hZ hown (host := "") (Or.inl (hW hw 18 rfl)) Via.refl rfl F_right_o0 rfl rfl (hb hby d18_43)) fun T14 X14 e14 => ?_
  show own_Go p e below _ (T14.setTop (mkF m 46 #[rv o0, iv (1 : Int32), rv o1] [(.ref o6), (.ref o0)]))
  refine own_by (B := T14.setTop (mkF m 49 #[rv o0, iv (1 : Int32), rv o1] [(.ref o1), (.int i11), (.ref o0)])) (fun t k => ?_) ?_
  · refine XS.iloadN X14.here hx rfl (hb hby d18_46) rfl ?_
    obtain ⟨cl15, Ar15, q15, S15, N15, H15, G15⟩ := id V_o6
    have hin15 : ¬ ((1 : Int32) < 0 ∨ cl15.slots.size ≤ ((1 : Int32)).toNatClampNeg) := inb_of S15 ⟨by decide, by decide⟩
    have hat15 : cl15.slots[((1 : Int32)).toNatClampNeg]? = some (.int i11) := H15.at hin15 rfl
    refine X14.iaload hx (j := (1 : Int32)) (v := (.int i11)) (by rw [show T14.heap = T13.heap from e14]; exact Ar15.1) (State.isArrayOf_alike hZ.alike Ar15.2.1) Ar15.2.2 hin15 hat15 (g := (mkF m 47 #[rv o0, iv (1 : Int32), rv o1] [(.int (1 : Int32)), (.ref o6), (.ref o0)])) rfl rfl (hb hby d18_47) _ ?_
    show Steps p.tables e below (T14.setTop (mkF m 48 #[rv o0, iv (1 : Int32), rv o1] [(.int i11), (.ref o0)])) _
    refine XS.aloadN X14.here hx rfl (hb hby d18_48) rfl rfl ?_
    exact k
  refine own_cc (own_callP X14 hx hZ (y := y10_) hown (hW hw 112 rfl) (hW hw 113 rfl) (hW hw 3 rfl) (hW hw 115 rfl) (hW hw 114 rfl) (hW hw 2 rfl) dE_ (rm18_6 l Z a0 hw [] o0 i11 o1 T13.heap n0 Z0 hp1) e14 0 dE_ dE_ dE_ dE_ rfl (by rw [hml]; rfl) o0 E_o0 [(.int i11), (.ref o1)] [] rfl (lenOf pd_10 rfl) rfl (by show 2 * 0 + _ ≤ _; exact Nat.le_of_eq rfl) (hb hby d18_49)) fun T17 L17 v17 X17 hQ17 => ?_
  obtain ⟨rfl, N17, e17⟩ := hQ17
  replace N0 := Fr.app N0 N17
  show own_Go p e below _ (T17.setTop (mkF m 52 #[rv o0, iv (1 : Int32), rv o1] []))
  exact own_retV X17 Bd.notSynchronized hx Bd.returns (hb hby d18_52) (by
      try rw [show T17.heap = T13.heap from e17]
      exact ⟨b5, rfl, N0, K0, V_o8, E_o1, F_modCount_o1, F_elementData_o1, F_size_o1, E_b5, F_price_b5, F_size_b5, sz_b5⟩) dE_ dE_

def Q14_20 (Z : State) (o0 o2 : Addr) (o3 o4 o5 : Addr) (k0 : ClassId) (j0 j1 j2 : Int64) (k1 : ClassId) (j3 j4 j5 : Int64) (k2 : ClassId) (i4 i5 i6 : Int32) (k3 : ClassId) (i7 i8 i9 : Int32) (h0 : Heap) (n0 : Nat) (v : Option Value) (h : Heap) (L : List Loc) : Prop := ∃ b1 : Addr, ∃ b3_4 : Addr, ∃ b5_7 : Addr, ∃ k3_4 : ClassId, v = some (.ref b1) ∧ Fr n0 L ∧ Keep h0 h [] ∧ Exa Z h b1 c1_ ∧ Fld Z h b1 c6_ "modCount" "I" (.int (1 : Int32)) ∧ Fld Z h b1 c1_ "elementData" c5_ (.ref b3_4) ∧ Fld Z h b1 c1_ "size" "I" (.int (1 : Int32)) ∧ Arv Z h b3_4 k3_4 (.object c3_) (1 : Int32) [(.ref b5_7)] .null ∧ Ovr Z k3_4 c3_ ∧ Exa Z h b5_7 c2_ ∧ Fld Z h b5_7 c2_ "price" "J" (.long j1) ∧ Fld Z h b5_7 c2_ "size" "J" (.long j4) ∧ h0.size ≤ b1 ∧ h0.size ≤ b3_4 ∧ h0.size ≤ b5_7 ∧ b1 ≠ b3_4 ∧ b1 ≠ b5_7 ∧ b3_4 ≠ b5_7
set_option maxRecDepth 65536 in
set_option maxHeartbeats 40000000 in
theorem rm14_20 (l : Launch) (Z : State) (a0 : Array Value) (hw : oW_ a0 Z) (ws : List Jvm.Cond) (o0 o2 : Addr) (o3 o4 o5 : Addr) (k0 : ClassId) (j0 j1 j2 : Int64) (k1 : ClassId) (j3 j4 j5 : Int64) (k2 : ClassId) (i4 i5 i6 : Int32) (k3 : ClassId) (i7 i8 i9 : Int32) (h0 : Heap) (n0 : Nat) (Z0 : n0 ≤ h0.size) (E_o0 : Exa Z h0 o0 c0_) (F_prices_o0 : Fld Z h0 o0 c0_ "prices" "[J" (.ref o2)) (F_sizes_o0 : Fld Z h0 o0 c0_ "sizes" "[J" (.ref o3)) (F_left_o0 : Fld Z h0 o0 c0_ "left" "[I" (.ref o4)) (F_right_o0 : Fld Z h0 o0 c0_ "right" "[I" (.ref o5)) (F_root_o0 : Fld Z h0 o0 c0_ "root" "I" (.int (1 : Int32))) (F_count_o0 : Fld Z h0 o0 c0_ "count" "I" (.int (1 : Int32))) (V_o2 : Arv Z h0 o2 k0 .long (8 : Int32) [(.long j0), (.long j1), (.long j2)] oY) (V_o3 : Arv Z h0 o3 k1 .long (8 : Int32) [(.long j3), (.long j4), (.long j5)] oY) (V_o4 : Arv Z h0 o4 k2 .int (8 : Int32) [(.int i4), (.int i5), (.int i6)] oZ) (V_o5 : Arv Z h0 o5 k3 .int (8 : Int32) [(.int i7), (.int i8), (.int i9)] oZ) (hp0 : i5 = (0 : Int32)) (hp1 : i8 = (0 : Int32)) :
    MetFree l y11_ (head1 (Jvm.Cond.code y11_ prog_3_method_6_code 2 (some (.object c7_)) :: ws) (rM_ 4 3 6 56)) (fun a U => a = #[(.ref o0)] ∧ Z.Warmed39 U.vm ∧ U.heap = h0) (fun _ _ _ _ _ => True) (fun _ U o U' => ∃ v L, o = .returned v ∧ Q14_20 Z o0 o2 o3 o4 o5 k0 j0 j1 j2 k1 j3 j4 j5 k2 i4 i5 i6 k3 i7 i8 i9 h0 n0 v U'.heap L ∧ FrameEnd U o U' L (rM_ 4 3 6 56).cells (rM_ 4 3 6 56).slots) := by
  refine MetFree.of_bodySF (plainFor_of_name pn_14) hisR ?_
  intro p e s m args below meth c s₁ Bd hml0 hP hK
  obtain ⟨rfl, hZ, hh⟩ := hP
  have hx := Bd.exec
  have hby := Bd.bytes
  have hml : c.maxLocals = 2 := hml0
  have hown : s.vm.findClass c0_ = some m.cls := findClass_of_methodNamed Bd.named
  have hnm := (name_of_methodNamed Bd.named Bd.method).1
  have X0 : Stand p l e (rM_ 4 3 6 56) s m #[(.ref o0)] below meth c s₁ [] 0 0 := Stand.of_body Bd
  have e0 : s₁.heap = h0 := by rw [← hh, Bd.state]; rfl
  have N0 := Fr.nil n0
  have K0 : Keep h0 h0 [] := Keep.refl h0 _
  change own_Go p e below (own_Post s (Q14_20 Z o0 o2 o3 o4 o5 k0 j0 j1 j2 k1 j3 j4 j5 k2 i4 i5 i6 k3 i7 i8 i9 h0 n0) (rM_ 4 3 6 56).cells (rM_ 4 3 6 56).slots) (s₁.setTop (entryFrame m #[(.ref o0)] 2))
  refine own_by (fun t k => castTop (ef_14 m o0) k) ?_
  show own_Go p e below _ (s₁.setTop (mkF m 0 #[rv o0, oU] []))
  obtain ⟨T1, h1, X1, e1, E1, A1, D1, -, st1⟩ := newO X0 hx hZ hown (hW hw 88 rfl) (hW hw 89 rfl) (hW hw 90 rfl) e0 (g := (mkF m 0 #[rv o0, oU] [])) rfl (hb hby d14_0) dE_ dE_
  obtain ⟨b1, g1⟩ : ∃ z, z = h0.size := ⟨_, rfl⟩
  rw [← g1] at A1 D1 st1
  have g_b1 : n0 ≤ b1 := Nat.le_trans Z0 (Nat.le_of_eq g1.symm)
  have sz_b1 : h0.size ≤ b1 := Nat.le_trans K0.1 (Nat.le_of_eq g1.symm)
  have ne_o0_b1 : o0 ≠ b1 := Nat.ne_of_lt (Nat.lt_of_lt_of_le E_o0.lt (Nat.le_of_eq g1.symm))
  have ne_o2_b1 : o2 ≠ b1 := Nat.ne_of_lt (Nat.lt_of_lt_of_le V_o2.lt (Nat.le_of_eq g1.symm))
  have ne_o3_b1 : o3 ≠ b1 := Nat.ne_of_lt (Nat.lt_of_lt_of_le V_o3.lt (Nat.le_of_eq g1.symm))
  have ne_o4_b1 : o4 ≠ b1 := Nat.ne_of_lt (Nat.lt_of_lt_of_le V_o4.lt (Nat.le_of_eq g1.symm))
  have ne_o5_b1 : o5 ≠ b1 := Nat.ne_of_lt (Nat.lt_of_lt_of_le V_o5.lt (Nat.le_of_eq g1.symm))
  replace E_o0 := E_o0.ext E1
  replace F_prices_o0 := F_prices_o0.ext E1
  replace F_sizes_o0 := F_sizes_o0.ext E1
  replace F_left_o0 := F_left_o0.ext E1
  replace F_right_o0 := F_right_o0.ext E1
  replace F_root_o0 := F_root_o0.ext E1
  replace F_count_o0 := F_count_o0.ext E1
  replace V_o2 := V_o2.ext E1
  replace V_o3 := V_o3.ext E1
  replace V_o4 := V_o4.ext E1
  replace V_o5 := V_o5.ext E1
  replace K0 := K0.ext E1
  replace Z0 := Nat.le_trans Z0 E1.1
  have E_b1 := A1
  have F_modCount_b1 : Fld Z h1 b1 c6_ "modCount" "I" oZ := D1 (Or.inl (hW hw 108 rfl)) (ty := .int) dE_
  have F_elementData_b1 : Fld Z h1 b1 c1_ "elementData" c5_ .null := D1 (Or.inl (hW hw 111 rfl)) (ty := (.array (.object c3_))) dE_
  have F_size_b1 : Fld Z h1 b1 c1_ "size" "I" oZ := D1 (Or.inl (hW hw 126 rfl)) (ty := .int) dE_
  refine own_by st1 ?_
  show own_Go p e below _ (T1.setTop (mkF m 3 #[rv o0, oU] [(.ref b1)]))
  refine own_by (B := T1.setTop (mkF m 5 #[rv o0, oU] [(.ref o0), (.ref b1), (.ref b1)])) (fun t k => ?_) ?_
  · refine XS.dup X1.here hx rfl (hb hby d14_3) rfl rfl ?_
    refine XS.aloadN X1.here hx rfl (hb hby d14_4) rfl rfl ?_
    exact k
  refine own_c1 (getF X1 hx hZ hown (host := "") (Or.inl (hW hw 46 rfl)) Via.refl e1 F_count_o0 rfl rfl (hb hby d14_5)) fun T2 X2 e2 => ?_
  show own_Go p e below _ (T2.setTop (mkF m 8 #[rv o0, oU] [(.int (1 : Int32)), (.ref b1), (.ref b1)]))
  refine own_cc (own_callI X2 hx hZ (y := y9_) rfl hown (hW hw 91 rfl) (hW hw 92 rfl) (hW hw 90 rfl) (hW hw 93 rfl) dE_ (rm15_14 l Z a0 hw [] b1 (0 : Int32) (0 : Int32) h1 n0 Z0 g_b1 E_b1 F_modCount_b1 F_elementData_b1 F_size_b1) e2 1 dE_ dE_ dE_ dE_ rfl (by rw [hml]; rfl) b1 [(.int (1 : Int32))] [(.ref b1)] rfl (lenOf pd_6 rfl) rfl (by show 2 * 0 + _ ≤ _; exact Nat.le_of_eq rfl) (hb hby d14_8)) fun T4 L4 v4 X4 hQ4 => ?_
  obtain ⟨b3_4, k3_4, rfl, N4, K4, E_b1', F_modCount_b1', F_elementData_b1', F_size_b1', V_b3_4', Ov_k3_4', sz_b3_4'⟩ := hQ4
  replace N0 := Fr.app N0 N4
  have g_b3_4 : n0 ≤ b3_4 := Nat.le_trans Z0 sz_b3_4'
  have sz_b3_4 : h0.size ≤ b3_4 := Nat.le_trans K0.1 sz_b3_4'
  have ne_o0_b3_4 : o0 ≠ b3_4 := Nat.ne_of_lt (Nat.lt_of_lt_of_le E_o0.lt sz_b3_4')
  have ne_o2_b3_4 : o2 ≠ b3_4 := Nat.ne_of_lt (Nat.lt_of_lt_of_le V_o2.lt sz_b3_4')
  have ne_o3_b3_4 : o3 ≠ b3_4 := Nat.ne_of_lt (Nat.lt_of_lt_of_le V_o3.lt sz_b3_4')
  have ne_o4_b3_4 : o4 ≠ b3_4 := Nat.ne_of_lt (Nat.lt_of_lt_of_le V_o4.lt sz_b3_4')
  have ne_o5_b3_4 : o5 ≠ b3_4 := Nat.ne_of_lt (Nat.lt_of_lt_of_le V_o5.lt sz_b3_4')
  have ne_b1_b3_4 : b1 ≠ b3_4 := Nat.ne_of_lt (Nat.lt_of_lt_of_le E_b1.lt sz_b3_4')
  replace E_o0 := E_o0.keep K4
  replace F_prices_o0 := F_prices_o0.keep K4 (ninS ne_o0_b1 nin0)
  replace F_sizes_o0 := F_sizes_o0.keep K4 (ninS ne_o0_b1 nin0)
  replace F_left_o0 := F_left_o0.keep K4 (ninS ne_o0_b1 nin0)
  replace F_right_o0 := F_right_o0.keep K4 (ninS ne_o0_b1 nin0)
  replace F_root_o0 := F_root_o0.keep K4 (ninS ne_o0_b1 nin0)
  replace F_count_o0 := F_count_o0.keep K4 (ninS ne_o0_b1 nin0)
  replace V_o2 := V_o2.keep K4 (ninS ne_o2_b1 nin0)
  replace V_o3 := V_o3.keep K4 (ninS ne_o3_b1 nin0)
  replace V_o4 := V_o4.keep K4 (ninS ne_o4_b1 nin0)
  replace V_o5 := V_o5.keep K4 (ninS ne_o5_b1 nin0)
  replace E_b1 := E_b1.keep K4
  replace K0 := K0.trans K4 (allS (Or.inr sz_b1) all0)
  replace Z0 := Nat.le_trans Z0 K4.1
  replace E_b1 := E_b1'
  have F_modCount_b1 := F_modCount_b1'
  have F_elementData_b1 := F_elementData_b1'
  have F_size_b1 := F_size_b1'
  have V_b3_4 := V_b3_4'
  have Ov_k3_4 := Ov_k3_4'
  show own_Go p e below _ (T4.setTop (mkF m 11 #[rv o0, oU] [(.ref b1)]))
  refine own_by (B := T4.setTop (mkF m 14 #[rv o0, rv b1] [(.ref o0), (.ref o0)])) (fun t k => ?_) ?_
  · refine XS.astoreN X4.here hx rfl (hb hby d14_11) rfl rfl (l' := #[rv o0, rv b1]) rfl ?_
    show Steps p.tables e below (T4.setTop (mkF m 12 #[rv o0, rv b1] [])) _
    refine XS.aloadN X4.here hx rfl (hb hby d14_12) rfl rfl ?_
    refine XS.aloadN X4.here hx rfl (hb hby d14_13) rfl rfl ?_
    exact k
  refine own_c1 (getF X4 hx hZ hown (host := "") (Or.inl (hW hw 23 rfl)) Via.refl rfl F_root_o0 rfl rfl (hb hby d14_14)) fun T5 X5 e5 => ?_
  show own_Go p e below _ (T5.setTop (mkF m 17 #[rv o0, rv b1] [(.int (1 : Int32)), (.ref o0)]))
  refine own_by (B := T5.setTop (mkF m 18 #[rv o0, rv b1] [(.ref b1), (.int (1 : Int32)), (.ref o0)])) (fun t k => ?_) ?_
  · refine XS.aloadN X5.here hx rfl (hb hby d14_17) rfl rfl ?_
    exact k
  refine own_cc (own_callP X5 hx hZ (y := y10_) hown (hW hw 112 rfl) (hW hw 113 rfl) (hW hw 3 rfl) (hW hw 115 rfl) (hW hw 114 rfl) (hW hw 2 rfl) dE_ (rm18_19 l Z a0 hw [] o0 b1 o2 o3 o4 o5 b3_4 (0 : Int32) k0 j0 j1 j2 k1 j3 j4 j5 k2 i4 i5 i6 k3 i7 i8 i9 k3_4 T4.heap n0 Z0 E_o0 F_prices_o0 F_sizes_o0 F_left_o0 F_right_o0 g_b1 E_b1 F_modCount_b1 F_elementData_b1 F_size_b1 V_o2 V_o3 V_o4 V_o5 g_b3_4 V_b3_4 Ov_k3_4 hp0 ne_o2_b3_4 ne_o3_b3_4 ne_o4_b3_4 ne_o5_b3_4 hp1) e5 0 dE_ dE_ dE_ dE_ rfl (by rw [hml]; rfl) o0 E_o0 [(.int (1 : Int32)), (.ref b1)] [] rfl (lenOf pd_10 rfl) rfl (by show 2 * 0 + _ ≤ _; exact Nat.le_of_eq rfl) (hb hby d14_18)) fun T7 L7 v7 X7 hQ7 => ?_
  obtain ⟨b5_7, rfl, N7, K7, V_b3_4', E_b1', F_modCount_b1', F_elementData_b1', F_size_b1', E_b5_7', F_price_b5_7', F_size_b5_7', sz_b5_7'⟩ := hQ7
  replace N0 := Fr.app N0 N7
  have g_b5_7 : n0 ≤ b5_7 := Nat.le_trans Z0 sz_b5_7'
  have sz_b5_7 : h0.size ≤ b5_7 := Nat.le_trans K0.1 sz_b5_7'
  have ne_o0_b5_7 : o0 ≠ b5_7 := Nat.ne_of_lt (Nat.lt_of_lt_of_le E_o0.lt sz_b5_7')
  have ne_o2_b5_7 : o2 ≠ b5_7 := Nat.ne_of_lt (Nat.lt_of_lt_of_le V_o2.lt sz_b5_7')
  have ne_o3_b5_7 : o3 ≠ b5_7 := Nat.ne_of_lt (Nat.lt_of_lt_of_le V_o3.lt sz_b5_7')
  have ne_o4_b5_7 : o4 ≠ b5_7 := Nat.ne_of_lt (Nat.lt_of_lt_of_le V_o4.lt sz_b5_7')
  have ne_o5_b5_7 : o5 ≠ b5_7 := Nat.ne_of_lt (Nat.lt_of_lt_of_le V_o5.lt sz_b5_7')
  have ne_b1_b5_7 : b1 ≠ b5_7 := Nat.ne_of_lt (Nat.lt_of_lt_of_le E_b1.lt sz_b5_7')
  have ne_b3_4_b5_7 : b3_4 ≠ b5_7 := Nat.ne_of_lt (Nat.lt_of_lt_of_le V_b3_4.lt sz_b5_7')
  replace E_o0 := E_o0.keep K7
  replace F_prices_o0 := F_prices_o0.keep K7 (ninS ne_o0_b3_4 (ninS ne_o0_b1 nin0))
  replace F_sizes_o0 := F_sizes_o0.keep K7 (ninS ne_o0_b3_4 (ninS ne_o0_b1 nin0))
  replace F_left_o0 := F_left_o0.keep K7 (ninS ne_o0_b3_4 (ninS ne_o0_b1 nin0))
  replace F_right_o0 := F_right_o0.keep K7 (ninS ne_o0_b3_4 (ninS ne_o0_b1 nin0))
  replace F_root_o0 := F_root_o0.keep K7 (ninS ne_o0_b3_4 (ninS ne_o0_b1 nin0))
  replace F_count_o0 := F_count_o0.keep K7 (ninS ne_o0_b3_4 (ninS ne_o0_b1 nin0))
  replace V_o2 := V_o2.keep K7 (ninS ne_o2_b3_4 (ninS ne_o2_b1 nin0))
  replace V_o3 := V_o3.keep K7 (ninS ne_o3_b3_4 (ninS ne_o3_b1 nin0))
  replace V_o4 := V_o4.keep K7 (ninS ne_o4_b3_4 (ninS ne_o4_b1 nin0))
  replace V_o5 := V_o5.keep K7 (ninS ne_o5_b3_4 (ninS ne_o5_b1 nin0))
  replace E_b1 := E_b1.keep K7
  replace K0 := K0.trans K7 (allS (Or.inr sz_b3_4) (allS (Or.inr sz_b1) all0))
  replace Z0 := Nat.le_trans Z0 K7.1
  have V_b3_4 := V_b3_4'
  replace E_b1 := E_b1'
  have F_modCount_b1 : Fld Z T7.heap b1 c6_ "modCount" "I" (.int (1 : Int32)) := F_modCount_b1'
  have F_elementData_b1 := F_elementData_b1'
  have F_size_b1 := F_size_b1'
  have E_b5_7 := E_b5_7'
  have F_price_b5_7 := F_price_b5_7'
  have F_size_b5_7 := F_size_b5_7'
  show own_Go p e below _ (T7.setTop (mkF m 21 #[rv o0, rv b1] []))
  refine own_by (B := T7.setTop (mkF m 22 #[rv o0, rv b1] [(.ref b1)])) (fun t k => ?_) ?_
  · refine XS.aloadN X7.here hx rfl (hb hby d14_21) rfl rfl ?_
    exact k
  exact own_retR X7 Bd.notSynchronized hx Bd.returns rfl rfl rfl (hb hby d14_22) ⟨b1, b3_4, b5_7, k3_4, rfl, N0, K0, E_b1, F_modCount_b1, F_elementData_b1, F_size_b1, V_b3_4, Ov_k3_4, E_b5_7, F_price_b5_7, F_size_b5_7, sz_b1, sz_b3_4, sz_b5_7, ne_b1_b3_4, ne_b1_b5_7, ne_b3_4_b5_7⟩ dE_ dE_

theorem d27_0 : dC20_ 0 (.iload_n 0, 1) := by decide +kernel
theorem d27_1 : dC20_ 1 (.ifCond .lt 8, 3) := by decide +kernel
theorem d27_4 : dC20_ 4 (.iload_n 0, 1) := by decide +kernel
theorem d27_5 : dC20_ 5 (.iload_n 1, 1) := by decide +kernel
theorem d27_6 : dC20_ 6 (.if_icmp .lt 10, 3) := by decide +kernel
theorem d27_16 : dC20_ 16 (.iload_n 0, 1) := by decide +kernel
theorem d27_17 : dC20_ 17 (.ireturn, 1) := by decide +kernel
theorem pn_27 : plainName "jdk/internal/util/Preconditions" = true := by first | (simp [plainName, overriddenIn]; done) | decide +kernel
theorem ef_27n (m : MethodId) (x0 x1 : Int32) : entryFrame m #[(.int x0), (.int x1), .null] 3 = mkF m 0 #[iv x0, iv x1, .val .null] [] := by first | (simp [entryFrame, mkF, argsToLocals, Value.category]; done) | rfl
def Q27_21 (Z : State) (i0 i1 : Int32) (h0 : Heap) (n0 : Nat) (v : Option Value) (h : Heap) (L : List Loc) : Prop := v = some (.int i0) ∧ Fr n0 L ∧ h = h0
set_option maxRecDepth 65536 in
set_option maxHeartbeats 40000000 in
theorem rm27_21 (l : Launch) (Z : State) (a0 : Array Value) (hw : oW_ a0 Z) (ws : List Jvm.Cond) (i0 i1 : Int32) (h0 : Heap) (n0 : Nat) (Z0 : n0 ≤ h0.size) (hp0 : ¬ (i0 < (0 : Int32))) (hp1 : i0 < i1) :
    MetFree l y21_ (head1 (Jvm.Cond.code y21_ jdk_41_method_11_code 3 (some .int) :: ws) (rM_ 0 0 0 0)) (fun a U => a = #[(.int i0), (.int i1), .null] ∧ Z.Warmed39 U.vm ∧ U.heap = h0) (fun _ _ _ _ _ => True) (fun _ U o U' => ∃ v L, o = .returned v ∧ Q27_21 Z i0 i1 h0 n0 v U'.heap L ∧ FrameEnd U o U' L (rM_ 0 0 0 0).cells (rM_ 0 0 0 0).slots) := by
  refine MetFree.of_bodySF (plainFor_of_name pn_27) hisR ?_
  intro p e s m args below meth c s₁ Bd hml0 hP hK
  obtain ⟨rfl, hZ, hh⟩ := hP
  have hx := Bd.exec
  have hby := Bd.bytes
  have hml : c.maxLocals = 3 := hml0
  have hown : s.vm.findClass c18_ = some m.cls := findClass_of_methodNamed Bd.named
  have hnm := (name_of_methodNamed Bd.named Bd.method).1
  have X0 : Stand p l e (rM_ 0 0 0 0) s m #[(.int i0), (.int i1), .null] below meth c s₁ [] 0 0 := Stand.of_body Bd
  have e0 : s₁.heap = h0 := by rw [← hh, Bd.state]; rfl
  have N0 := Fr.nil n0
  change own_Go p e below (own_Post s (Q27_21 Z i0 i1 h0 n0) (rM_ 0 0 0 0).cells (rM_ 0 0 0 0).slots) (s₁.setTop (entryFrame m #[(.int i0), (.int i1), .null] 3))
  refine own_by (fun t k => castTop (ef_27n m i0 i1) k) ?_
  show own_Go p e below _ (s₁.setTop (mkF m 0 #[iv i0, iv i1, .val .null] []))
  refine own_by (B := s₁.setTop (mkF m 17 #[iv i0, iv i1, .val .null] [(.int i0)])) (fun t k => ?_) ?_
  · refine XS.iloadN X0.here hx rfl (hb hby d27_0) rfl ?_
    refine XS.ifNo X0.here hx rfl (hb hby d27_1) rfl ((if0 _ _).trans (flt hp0).1) ?_
    show Steps p.tables e below (s₁.setTop (mkF m 4 #[iv i0, iv i1, .val .null] [])) _
    refine XS.iloadN X0.here hx rfl (hb hby d27_4) rfl ?_
    refine XS.iloadN X0.here hx rfl (hb hby d27_5) rfl ?_
    refine XS.icmpYes X0.here hx rfl (pc0 := 6) (pc' := 16) rfl (hb hby d27_6) rfl (tlt hp1).1 dE_ dE_ ?_
    show Steps p.tables e below (s₁.setTop (mkF m 16 #[iv i0, iv i1, .val .null] [])) _
    refine XS.iloadN X0.here hx rfl (hb hby d27_16) rfl ?_
    exact k
  exact own_retI X0 Bd.notSynchronized hx Bd.returns (hb hby d27_17) (by
      try rw [show s₁.heap = h0 from e0]
      exact ⟨rfl, N0, rfl⟩) dE_ dE_

theorem d26_0 : dC21_ 0 (.iload_n 0, 1) := by decide +kernel
theorem d26_1 : dC21_ 1 (.iload_n 1, 1) := by decide +kernel
theorem d26_2 : dC21_ 2 (.aconst_null, 1) := by decide +kernel
theorem d26_3 : dC21_ 3 (.invokestatic 105, 3) := by decide +kernel
theorem d26_6 : dC21_ 6 (.ireturn, 1) := by decide +kernel
theorem pn_26 : plainName "java/util/Objects" = true := by first | (simp [plainName, overriddenIn]; done) | decide +kernel
theorem pd_16 : parseMethodDescriptor "(IILjava/util/function/BiFunction;)I" = some ⟨[.int, .int, (.object "java/util/function/BiFunction")], some .int⟩ := by decide +kernel
theorem ef_26 (m : MethodId) (x0 x1 : Int32) : entryFrame m #[(.int x0), (.int x1)] 2 = mkF m 0 #[iv x0, iv x1] [] := by first | (simp [entryFrame, mkF, argsToLocals, Value.category]; done) | rfl
def Q26_22 (Z : State) (i0 i1 : Int32) (h0 : Heap) (n0 : Nat) (v : Option Value) (h : Heap) (L : List Loc) : Prop := v = some (.int i0) ∧ Fr n0 L ∧ h = h0
set_option maxRecDepth 65536 in
set_option maxHeartbeats 40000000 in
theorem rm26_22 (l : Launch) (Z : State) (a0 : Array Value) (hw : oW_ a0 Z) (ws : List Jvm.Cond) (i0 i1 : Int32) (h0 : Heap) (n0 : Nat) (Z0 : n0 ≤ h0.size) (hp0 : ¬ (i0 < (0 : Int32))) (hp1 : i0 < i1) :
    MetFree l y22_ (head1 (Jvm.Cond.code y22_ jdk_31_method_17_code 2 (some .int) :: ws) (rM_ 1 0 0 14)) (fun a U => a = #[(.int i0), (.int i1)] ∧ Z.Warmed39 U.vm ∧ U.heap = h0) (fun _ _ _ _ _ => True) (fun _ U o U' => ∃ v L, o = .returned v ∧ Q26_22 Z i0 i1 h0 n0 v U'.heap L ∧ FrameEnd U o U' L (rM_ 1 0 0 14).cells (rM_ 1 0 0 14).slots) := by
  refine MetFree.of_bodySF (plainFor_of_name pn_26) hisR ?_
  intro p e s m args below meth c s₁ Bd hml0 hP hK
  obtain ⟨rfl, hZ, hh⟩ := hP
  have hx := Bd.exec
  have hby := Bd.bytes
  have hml : c.maxLocals = 2 := hml0
  have hown : s.vm.findClass c13_ = some m.cls := findClass_of_methodNamed Bd.named
  have hnm := (name_of_methodNamed Bd.named Bd.method).1
  have X0 : Stand p l e (rM_ 1 0 0 14) s m #[(.int i0), (.int i1)] below meth c s₁ [] 0 0 := Stand.of_body Bd
  have e0 : s₁.heap = h0 := by rw [← hh, Bd.state]; rfl
  have N0 := Fr.nil n0
  change own_Go p e below (own_Post s (Q26_22 Z i0 i1 h0 n0) (rM_ 1 0 0 14).cells (rM_ 1 0 0 14).slots) (s₁.setTop (entryFrame m #[(.int i0), (.int i1)] 2))
  refine own_by (fun t k => castTop (ef_26 m i0 i1) k) ?_
  show own_Go p e below _ (s₁.setTop (mkF m 0 #[iv i0, iv i1] []))
  refine own_by (B := s₁.setTop (mkF m 3 #[iv i0, iv i1] [.null, (.int i1), (.int i0)])) (fun t k => ?_) ?_
  · refine XS.iloadN X0.here hx rfl (hb hby d26_0) rfl ?_
    refine XS.iloadN X0.here hx rfl (hb hby d26_1) rfl ?_
    refine XS.aconstNull X0.here hx rfl (hb hby d26_2) ?_
    exact k
  refine own_cc (own_callS X0 hx hZ (y := y21_) hown (hW hw 176 rfl) (hW hw 177 rfl) (hW hw 178 rfl) (hW hw 179 rfl) dE_ (rm27_21 l Z a0 hw [] i0 i1 h0 n0 Z0 hp0 hp1) e0 0 dE_ dE_ dE_ dE_ rfl (by rw [hml]; rfl) [(.int i0), (.int i1), .null] [] rfl (lenOf pd_16 rfl) rfl (by show 2 * 0 + _ ≤ _; exact Nat.le_of_eq rfl) (hb hby d26_3)) fun T2 L2 v2 X2 hQ2 => ?_
  obtain ⟨rfl, N2, e2⟩ := hQ2
  replace N0 := Fr.app N0 N2
  show own_Go p e below _ (T2.setTop (mkF m 6 #[iv i0, iv i1] [(.int i0)]))
  exact own_retI X2 Bd.notSynchronized hx Bd.returns (hb hby d26_6) (by
      try rw [show T2.heap = h0 from e2]
      exact ⟨rfl, N0, rfl⟩) dE_ dE_

theorem d28_0 : dC22_ 0 (.aload_n 0, 1) := by decide +kernel
theorem d28_1 : dC22_ 1 (.getfield 9, 3) := by decide +kernel
theorem d28_4 : dC22_ 4 (.iload_n 1, 1) := by decide +kernel
theorem d28_5 : dC22_ 5 (.aaload, 1) := by decide +kernel
theorem d28_6 : dC22_ 6 (.areturn, 1) := by decide +kernel
theorem pn_28 : plainName "java/util/ArrayList" = true := by first | (simp [plainName, overriddenIn]; done) | decide +kernel
theorem ef_28 (m : MethodId) (x0 : Addr) (x1 : Int32) : entryFrame m #[(.ref x0), (.int x1)] 2 = mkF m 0 #[rv x0, iv x1] [] := by first | (simp [entryFrame, mkF, argsToLocals, Value.category]; done) | rfl
def Q28_23 (Z : State) (o0 o2 o3 : Addr) (k0 : ClassId) (h0 : Heap) (n0 : Nat) (v : Option Value) (h : Heap) (L : List Loc) : Prop := v = some (.ref o3) ∧ Fr n0 L ∧ h = h0
set_option maxRecDepth 65536 in
set_option maxHeartbeats 40000000 in
theorem rm28_23 (l : Launch) (Z : State) (a0 : Array Value) (hw : oW_ a0 Z) (ws : List Jvm.Cond) (o0 o2 o3 : Addr) (k0 : ClassId) (h0 : Heap) (n0 : Nat) (Z0 : n0 ≤ h0.size) (F_elementData_o0 : Fld Z h0 o0 c1_ "elementData" c5_ (.ref o2)) (V_o2 : Arv Z h0 o2 k0 (.object c3_) (1 : Int32) [(.ref o3)] .null) :
    MetFree l y23_ (head1 (Jvm.Cond.code y23_ jdk_38_method_18_code 2 (some (.object c3_)) :: ws) (rM_ 0 0 0 0)) (fun a U => a = #[(.ref o0), oZ] ∧ Z.Warmed39 U.vm ∧ U.heap = h0) (fun _ _ _ _ _ => True) (fun _ U o U' => ∃ v L, o = .returned v ∧ Q28_23 Z o0 o2 o3 k0 h0 n0 v U'.heap L ∧ FrameEnd U o U' L (rM_ 0 0 0 0).cells (rM_ 0 0 0 0).slots) := by
  refine MetFree.of_bodySF (plainFor_of_name pn_28) hisR ?_
  intro p e s m args below meth c s₁ Bd hml0 hP hK
  obtain ⟨rfl, hZ, hh⟩ := hP
  have hx := Bd.exec
  have hby := Bd.bytes
  have hml : c.maxLocals = 2 := hml0
  have hown : s.vm.findClass c1_ = some m.cls := findClass_of_methodNamed Bd.named
  have hnm := (name_of_methodNamed Bd.named Bd.method).1
  have X0 : Stand p l e (rM_ 0 0 0 0) s m #[(.ref o0), oZ] below meth c s₁ [] 0 0 := Stand.of_body Bd
  have e0 : s₁.heap = h0 := by rw [← hh, Bd.state]; rfl
  have N0 := Fr.nil n0
  change own_Go p e below (own_Post s (Q28_23 Z o0 o2 o3 k0 h0 n0) (rM_ 0 0 0 0).cells (rM_ 0 0 0 0).slots) (s₁.setTop (entryFrame m #[(.ref o0), oZ] 2))
  refine own_by (fun t k => castTop (ef_28 m o0 (0 : Int32)) k) ?_
  show own_Go p e below _ (s₁.setTop (mkF m 0 #[rv o0, iv (0 : Int32)] []))
  refine own_by (B := s₁.setTop (mkF m 1 #[rv o0, iv (0 : Int32)] [(.ref o0)])) (fun t k => ?_) ?_
  · refine XS.aloadN X0.here hx rfl (hb hby d28_0) rfl rfl ?_
    exact k
  refine own_c1 (getF X0 hx hZ hown (host := "") (Or.inl (hW hw 110 rfl)) Via.refl e0 F_elementData_o0 rfl rfl (hb hby d28_1)) fun T1 X1 e1 => ?_
  show own_Go p e below _ (T1.setTop (mkF m 4 #[rv o0, iv (0 : Int32)] [(.ref o2)]))
  refine own_by (B := T1.setTop (mkF m 6 #[rv o0, iv (0 : Int32)] [(.ref o3)])) (fun t k => ?_) ?_
  · refine XS.iloadN X1.here hx rfl (hb hby d28_4) rfl ?_
    obtain ⟨cl2, Ar2, q2, S2, N2, H2, G2⟩ := id V_o2
    have hin2 : ¬ ((0 : Int32) < 0 ∨ cl2.slots.size ≤ ((0 : Int32)).toNatClampNeg) := inb_of S2 ⟨by decide, by decide⟩
    have hat2 : cl2.slots[((0 : Int32)).toNatClampNeg]? = some (.ref o3) := H2.at hin2 rfl
    refine X1.aaload hx (j := (0 : Int32)) (v := (.ref o3)) (by rw [show T1.heap = h0 from e1]; exact Ar2.1) (State.isArrayOf_alike hZ.alike Ar2.2.1) rfl Ar2.2.2 hin2 hat2 (g := (mkF m 5 #[rv o0, iv (0 : Int32)] [oZ, (.ref o2)])) rfl rfl (hb hby d28_5) _ ?_
    show Steps p.tables e below (T1.setTop (mkF m 6 #[rv o0, iv (0 : Int32)] [(.ref o3)])) _
    exact k
  exact own_retR X1 Bd.notSynchronized hx Bd.returns rfl rfl rfl (hb hby d28_6) (by
      try rw [show T1.heap = h0 from e1]
      exact ⟨rfl, N0, rfl⟩) dE_ dE_

theorem d25_0 : dC23_ 0 (.iload_n 1, 1) := by decide +kernel
theorem d25_1 : dC23_ 1 (.aload_n 0, 1) := by decide +kernel
theorem d25_2 : dC23_ 2 (.getfield 48, 3) := by decide +kernel
theorem d25_5 : dC23_ 5 (.invokestatic 118, 3) := by decide +kernel
theorem d25_8 : dC23_ 8 (.pop, 1) := by decide +kernel
theorem d25_9 : dC23_ 9 (.aload_n 0, 1) := by decide +kernel
theorem d25_10 : dC23_ 10 (.iload_n 1, 1) := by decide +kernel
theorem d25_11 : dC23_ 11 (.invokevirtual 123, 3) := by decide +kernel
theorem d25_14 : dC23_ 14 (.areturn, 1) := by decide +kernel
theorem pn_25 : plainName "java/util/ArrayList" = true := by first | (simp [plainName, overriddenIn]; done) | decide +kernel
theorem pd_7 : parseMethodDescriptor "(II)I" = some ⟨[.int, .int], some .int⟩ := by decide +kernel
theorem pd_15 : parseMethodDescriptor "(I)Ljava/lang/Object;" = some ⟨[.int], some (.object "java/lang/Object")⟩ := by decide +kernel
theorem ef_25 (m : MethodId) (x0 : Addr) (x1 : Int32) : entryFrame m #[(.ref x0), (.int x1)] 2 = mkF m 0 #[rv x0, iv x1] [] := by first | (simp [entryFrame, mkF, argsToLocals, Value.category]; done) | rfl
def Q25_24 (Z : State) (o0 o2 o3 : Addr) (i1 : Int32) (k0 : ClassId) (h0 : Heap) (n0 : Nat) (v : Option Value) (h : Heap) (L : List Loc) : Prop := v = some (.ref o3) ∧ Fr n0 L ∧ h = h0
set_option maxRecDepth 65536 in
set_option maxHeartbeats 40000000 in
theorem rm25_24 (l : Launch) (Z : State) (a0 : Array Value) (hw : oW_ a0 Z) (ws : List Jvm.Cond) (o0 o2 o3 : Addr) (i1 : Int32) (k0 : ClassId) (h0 : Heap) (n0 : Nat) (Z0 : n0 ≤ h0.size) (E_o0 : Exa Z h0 o0 c1_) (F_elementData_o0 : Fld Z h0 o0 c1_ "elementData" c5_ (.ref o2)) (F_size_o0 : Fld Z h0 o0 c1_ "size" "I" (.int i1)) (V_o2 : Arv Z h0 o2 k0 (.object c3_) (1 : Int32) [(.ref o3)] .null) (hp0 : (0 : Int32) < i1) :
    MetFree l y24_ (head1 (Jvm.Cond.code y24_ jdk_38_method_20_code 2 (some (.object c3_)) :: ws) (rM_ 2 0 0 27)) (fun a U => a = #[(.ref o0), oZ] ∧ Z.Warmed39 U.vm ∧ U.heap = h0) (fun _ _ _ _ _ => True) (fun _ U o U' => ∃ v L, o = .returned v ∧ Q25_24 Z o0 o2 o3 i1 k0 h0 n0 v U'.heap L ∧ FrameEnd U o U' L (rM_ 2 0 0 27).cells (rM_ 2 0 0 27).slots) := by
  refine MetFree.of_bodySF (plainFor_of_name pn_25) hisR ?_
  intro p e s m args below meth c s₁ Bd hml0 hP hK
  obtain ⟨rfl, hZ, hh⟩ := hP
  have hx := Bd.exec
  have hby := Bd.bytes
  have hml : c.maxLocals = 2 := hml0
  have hown : s.vm.findClass c1_ = some m.cls := findClass_of_methodNamed Bd.named
  have hnm := (name_of_methodNamed Bd.named Bd.method).1
  have X0 : Stand p l e (rM_ 2 0 0 27) s m #[(.ref o0), oZ] below meth c s₁ [] 0 0 := Stand.of_body Bd
  have e0 : s₁.heap = h0 := by rw [← hh, Bd.state]; rfl
  have N0 := Fr.nil n0
  change own_Go p e below (own_Post s (Q25_24 Z o0 o2 o3 i1 k0 h0 n0) (rM_ 2 0 0 27).cells (rM_ 2 0 0 27).slots) (s₁.setTop (entryFrame m #[(.ref o0), oZ] 2))
  refine own_by (fun t k => castTop (ef_25 m o0 (0 : Int32)) k) ?_
  show own_Go p e below _ (s₁.setTop (mkF m 0 #[rv o0, iv (0 : Int32)] []))
  refine own_by (B := s₁.setTop (mkF m 2 #[rv o0, iv (0 : Int32)] [(.ref o0), oZ])) (fun t k => ?_) ?_
  · refine XS.iloadN X0.here hx rfl (hb hby d25_0) rfl ?_
    refine XS.aloadN X0.here hx rfl (hb hby d25_1) rfl rfl ?_
    exact k
  refine own_c1 (getF X0 hx hZ hown (host := "") (Or.inl (hW hw 125 rfl)) Via.refl e0 F_size_o0 rfl rfl (hb hby d25_2)) fun T1 X1 e1 => ?_
  show own_Go p e below _ (T1.setTop (mkF m 5 #[rv o0, iv (0 : Int32)] [(.int i1), oZ]))
  refine own_cc (own_callS X1 hx hZ (y := y22_) hown (hW hw 172 rfl) (hW hw 173 rfl) (hW hw 174 rfl) (hW hw 175 rfl) dE_ (rm26_22 l Z a0 hw [] (0 : Int32) i1 h0 n0 Z0 (by decide : ¬ ((0 : Int32) < (0 : Int32))) hp0) e1 0 dE_ dE_ dE_ dE_ rfl (by rw [hml]; rfl) [oZ, (.int i1)] [] rfl (lenOf pd_7 rfl) rfl (by show 2 * 0 + _ ≤ _; exact Nat.le_of_eq rfl) (hb hby d25_5)) fun T3 L3 v3 X3 hQ3 => ?_
  obtain ⟨rfl, N3, e3⟩ := hQ3
  replace N0 := Fr.app N0 N3
  show own_Go p e below _ (T3.setTop (mkF m 8 #[rv o0, iv (0 : Int32)] [oZ]))
  refine own_by (B := T3.setTop (mkF m 11 #[rv o0, iv (0 : Int32)] [oZ, (.ref o0)])) (fun t k => ?_) ?_
  · refine XS.pop X3.here hx rfl (hb hby d25_8) rfl rfl ?_
    show Steps p.tables e below (T3.setTop (mkF m 9 #[rv o0, iv (0 : Int32)] [])) _
    refine XS.aloadN X3.here hx rfl (hb hby d25_9) rfl rfl ?_
    refine XS.iloadN X3.here hx rfl (hb hby d25_10) rfl ?_
    exact k
  refine own_cc (own_callV X3 hx hZ (y := y23_) (z := y23_) hown (hW hw 180 rfl) (hW hw 181 rfl) (notFace_of_selects (args := #[]) (mvT hZ (hW hw 183 rfl))) (hW hw 183 rfl) (hW hw 182 rfl) (hW hw 90 rfl) (hW hw 184 rfl) dE_ (rm28_23 l Z a0 hw [] o0 o2 o3 k0 h0 n0 Z0 F_elementData_o0 V_o2) e3 0 dE_ dE_ dE_ dE_ rfl (by rw [hml]; rfl) o0 E_o0 [oZ] [] rfl (lenOf pd_15 rfl) rfl (by show 2 * 0 + _ ≤ _; exact Nat.le_of_eq rfl) (hb hby d25_11)) fun T5 L5 v5 X5 hQ5 => ?_
  obtain ⟨rfl, N5, e5⟩ := hQ5
  replace N0 := Fr.app N0 N5
  show own_Go p e below _ (T5.setTop (mkF m 14 #[rv o0, iv (0 : Int32)] [(.ref o3)]))
  exact own_retR X5 Bd.notSynchronized hx Bd.returns rfl rfl rfl (hb hby d25_14) (by
      try rw [show T5.heap = h0 from e5]
      exact ⟨rfl, N0, rfl⟩) dE_ dE_

theorem d29_0 : dC24_ 0 (.aload_n 0, 1) := by decide +kernel
theorem d29_1 : dC24_ 1 (.getfield 7, 3) := by decide +kernel
theorem d29_4 : dC24_ 4 (.lreturn, 1) := by decide +kernel
theorem pn_29 : plainName "com/example/tidebook/tidebook/model/PriceLevel" = true := by first | (simp [plainName, overriddenIn]; done) | decide +kernel
theorem ef_29 (m : MethodId) (x0 : Addr) : entryFrame m #[(.ref x0)] 1 = mkF m 0 #[rv x0] [] := by first | (simp [entryFrame, mkF, argsToLocals, Value.category]; done) | rfl
def Q29_25 (Z : State) (o0 : Addr) (j0 : Int64) (h0 : Heap) (n0 : Nat) (v : Option Value) (h : Heap) (L : List Loc) : Prop := v = some (.long j0) ∧ Fr n0 L ∧ h = h0
set_option maxRecDepth 65536 in
set_option maxHeartbeats 40000000 in
theorem rm29_25 (l : Launch) (Z : State) (a0 : Array Value) (hw : oW_ a0 Z) (ws : List Jvm.Cond) (o0 : Addr) (j0 : Int64) (h0 : Heap) (n0 : Nat) (Z0 : n0 ≤ h0.size) (F_price_o0 : Fld Z h0 o0 c2_ "price" "J" (.long j0)) :
    MetFree l y25_ (head1 (Jvm.Cond.code y25_ prog_52_method_5_code 1 (some .long) :: ws) (rM_ 0 0 0 0)) (fun a U => a = #[(.ref o0)] ∧ Z.Warmed39 U.vm ∧ U.heap = h0) (fun _ _ _ _ _ => True) (fun _ U o U' => ∃ v L, o = .returned v ∧ Q29_25 Z o0 j0 h0 n0 v U'.heap L ∧ FrameEnd U o U' L (rM_ 0 0 0 0).cells (rM_ 0 0 0 0).slots) := by
  refine MetFree.of_bodySF (plainFor_of_name pn_29) hisR ?_
  intro p e s m args below meth c s₁ Bd hml0 hP hK
  obtain ⟨rfl, hZ, hh⟩ := hP
  have hx := Bd.exec
  have hby := Bd.bytes
  have hml : c.maxLocals = 1 := hml0
  have hown : s.vm.findClass c2_ = some m.cls := findClass_of_methodNamed Bd.named
  have hnm := (name_of_methodNamed Bd.named Bd.method).1
  have X0 : Stand p l e (rM_ 0 0 0 0) s m #[(.ref o0)] below meth c s₁ [] 0 0 := Stand.of_body Bd
  have e0 : s₁.heap = h0 := by rw [← hh, Bd.state]; rfl
  have N0 := Fr.nil n0
  change own_Go p e below (own_Post s (Q29_25 Z o0 j0 h0 n0) (rM_ 0 0 0 0).cells (rM_ 0 0 0 0).slots) (s₁.setTop (entryFrame m #[(.ref o0)] 1))
  refine own_by (fun t k => castTop (ef_29 m o0) k) ?_
  show own_Go p e below _ (s₁.setTop (mkF m 0 #[rv o0] []))
  refine own_by (B := s₁.setTop (mkF m 1 #[rv o0] [(.ref o0)])) (fun t k => ?_) ?_
  · refine XS.aloadN X0.here hx rfl (hb hby d29_0) rfl rfl ?_
    exact k
  refine own_c1 (getF X0 hx hZ hown (host := "") (Or.inl (hW hw 141 rfl)) Via.refl e0 F_price_o0 rfl rfl (hb hby d29_1)) fun T1 X1 e1 => ?_
  show own_Go p e below _ (T1.setTop (mkF m 4 #[rv o0] [(.long j0)]))
  exact own_retL X1 Bd.notSynchronized hx Bd.returns (hb hby d29_4) (by
      try rw [show T1.heap = h0 from e1]
      exact ⟨rfl, N0, rfl⟩) dE_ dE_

theorem d30_0 : dC25_ 0 (.aload_n 0, 1) := by decide +kernel
theorem d30_1 : dC25_ 1 (.getfield 13, 3) := by decide +kernel
theorem d30_4 : dC25_ 4 (.lreturn, 1) := by decide +kernel
theorem pn_30 : plainName "com/example/tidebook/tidebook/model/PriceLevel" = true := by first | (simp [plainName, overriddenIn]; done) | decide +kernel
theorem ef_30 (m : MethodId) (x0 : Addr) : entryFrame m #[(.ref x0)] 1 = mkF m 0 #[rv x0] [] := by first | (simp [entryFrame, mkF, argsToLocals, Value.category]; done) | rfl
def Q30_26 (Z : State) (o0 : Addr) (j1 : Int64) (h0 : Heap) (n0 : Nat) (v : Option Value) (h : Heap) (L : List Loc) : Prop := v = some (.long j1) ∧ Fr n0 L ∧ h = h0
set_option maxRecDepth 65536 in
set_option maxHeartbeats 40000000 in
theorem rm30_26 (l : Launch) (Z : State) (a0 : Array Value) (hw : oW_ a0 Z) (ws : List Jvm.Cond) (o0 : Addr) (j1 : Int64) (h0 : Heap) (n0 : Nat) (Z0 : n0 ≤ h0.size) (F_size_o0 : Fld Z h0 o0 c2_ "size" "J" (.long j1)) :
    MetFree l y26_ (head1 (Jvm.Cond.code y26_ prog_52_method_6_code 1 (some .long) :: ws) (rM_ 0 0 0 0)) (fun a U => a = #[(.ref o0)] ∧ Z.Warmed39 U.vm ∧ U.heap = h0) (fun _ _ _ _ _ => True) (fun _ U o U' => ∃ v L, o = .returned v ∧ Q30_26 Z o0 j1 h0 n0 v U'.heap L ∧ FrameEnd U o U' L (rM_ 0 0 0 0).cells (rM_ 0 0 0 0).slots) := by
  refine MetFree.of_bodySF (plainFor_of_name pn_30) hisR ?_
  intro p e s m args below meth c s₁ Bd hml0 hP hK
  obtain ⟨rfl, hZ, hh⟩ := hP
  have hx := Bd.exec
  have hby := Bd.bytes
  have hml : c.maxLocals = 1 := hml0
  have hown : s.vm.findClass c2_ = some m.cls := findClass_of_methodNamed Bd.named
  have hnm := (name_of_methodNamed Bd.named Bd.method).1
  have X0 : Stand p l e (rM_ 0 0 0 0) s m #[(.ref o0)] below meth c s₁ [] 0 0 := Stand.of_body Bd
  have e0 : s₁.heap = h0 := by rw [← hh, Bd.state]; rfl
  have N0 := Fr.nil n0
  change own_Go p e below (own_Post s (Q30_26 Z o0 j1 h0 n0) (rM_ 0 0 0 0).cells (rM_ 0 0 0 0).slots) (s₁.setTop (entryFrame m #[(.ref o0)] 1))
  refine own_by (fun t k => castTop (ef_30 m o0) k) ?_
  show own_Go p e below _ (s₁.setTop (mkF m 0 #[rv o0] []))
  refine own_by (B := s₁.setTop (mkF m 1 #[rv o0] [(.ref o0)])) (fun t k => ?_) ?_
  · refine XS.aloadN X0.here hx rfl (hb hby d30_0) rfl rfl ?_
    exact k
  refine own_c1 (getF X0 hx hZ hown (host := "") (Or.inl (hW hw 143 rfl)) Via.refl e0 F_size_o0 rfl rfl (hb hby d30_1)) fun T1 X1 e1 => ?_
  show own_Go p e below _ (T1.setTop (mkF m 4 #[rv o0] [(.long j1)]))
  exact own_retL X1 Bd.notSynchronized hx Bd.returns (hb hby d30_4) (by
      try rw [show T1.heap = h0 from e1]
      exact ⟨rfl, N0, rfl⟩) dE_ dE_

def Q12_27 (Z : State) (o0 o2 : Addr) (k0 : ClassId) (j0 j1 j2 : Int64) (h0 : Heap) (n0 : Nat) (v : Option Value) (h : Heap) (L : List Loc) : Prop := v = some (.long j1) ∧ Fr n0 L ∧ h = h0
set_option maxRecDepth 65536 in
set_option maxHeartbeats 40000000 in
theorem rm12_27 (l : Launch) (Z : State) (a0 : Array Value) (hw : oW_ a0 Z) (ws : List Jvm.Cond) (o0 o2 : Addr) (k0 : ClassId) (j0 j1 j2 : Int64) (h0 : Heap) (n0 : Nat) (Z0 : n0 ≤ h0.size) (F_prices_o0 : Fld Z h0 o0 c0_ "prices" "[J" (.ref o2)) (F_best_o0 : Fld Z h0 o0 c0_ "best" "I" (.int (1 : Int32))) (V_o2 : Arv Z h0 o2 k0 .long (8 : Int32) [(.long j0), (.long j1), (.long j2)] oY) :
    MetFree l y5_ (head1 (Jvm.Cond.code y5_ prog_3_method_2_code 1 (some .long) :: ws) (rM_ 0 0 0 0)) (fun a U => a = #[(.ref o0)] ∧ Z.Warmed39 U.vm ∧ U.heap = h0) (fun _ _ _ _ _ => True) (fun _ U o U' => ∃ v L, o = .returned v ∧ Q12_27 Z o0 o2 k0 j0 j1 j2 h0 n0 v U'.heap L ∧ FrameEnd U o U' L (rM_ 0 0 0 0).cells (rM_ 0 0 0 0).slots) := by
  refine MetFree.of_bodySF (plainFor_of_name pn_12) hisR ?_
  intro p e s m args below meth c s₁ Bd hml0 hP hK
  obtain ⟨rfl, hZ, hh⟩ := hP
  have hx := Bd.exec
  have hby := Bd.bytes
  have hml : c.maxLocals = 1 := hml0
  have hown : s.vm.findClass c0_ = some m.cls := findClass_of_methodNamed Bd.named
  have hnm := (name_of_methodNamed Bd.named Bd.method).1
  have X0 : Stand p l e (rM_ 0 0 0 0) s m #[(.ref o0)] below meth c s₁ [] 0 0 := Stand.of_body Bd
  have e0 : s₁.heap = h0 := by rw [← hh, Bd.state]; rfl
  have N0 := Fr.nil n0
  change own_Go p e below (own_Post s (Q12_27 Z o0 o2 k0 j0 j1 j2 h0 n0) (rM_ 0 0 0 0).cells (rM_ 0 0 0 0).slots) (s₁.setTop (entryFrame m #[(.ref o0)] 1))
  refine own_by (fun t k => castTop (ef_12 m o0) k) ?_
  show own_Go p e below _ (s₁.setTop (mkF m 0 #[rv o0] []))
  refine own_by (B := s₁.setTop (mkF m 1 #[rv o0] [(.ref o0)])) (fun t k => ?_) ?_
  · refine XS.aloadN X0.here hx rfl (hb hby d12_0) rfl rfl ?_
    exact k
  refine own_c1 (getF X0 hx hZ hown (host := "") (Or.inl (hW hw 11 rfl)) Via.refl e0 F_prices_o0 rfl rfl (hb hby d12_1)) fun T1 X1 e1 => ?_
  show own_Go p e below _ (T1.setTop (mkF m 4 #[rv o0] [(.ref o2)]))
  refine own_by (B := T1.setTop (mkF m 5 #[rv o0] [(.ref o0), (.ref o2)])) (fun t k => ?_) ?_
  · refine XS.aloadN X1.here hx rfl (hb hby d12_4) rfl rfl ?_
    exact k
  refine own_c1 (getF X1 hx hZ hown (host := "") (Or.inl (hW hw 25 rfl)) Via.refl e1 F_best_o0 rfl rfl (hb hby d12_5)) fun T2 X2 e2 => ?_
  show own_Go p e below _ (T2.setTop (mkF m 8 #[rv o0] [(.int (1 : Int32)), (.ref o2)]))
  refine own_by (B := T2.setTop (mkF m 9 #[rv o0] [(.long j1)])) (fun t k => ?_) ?_
  · obtain ⟨cl3, Ar3, q3, S3, N3, H3, G3⟩ := id V_o2
    have hin3 : ¬ ((1 : Int32) < 0 ∨ cl3.slots.size ≤ ((1 : Int32)).toNatClampNeg) := inb_of S3 ⟨by decide, by decide⟩
    have hat3 : cl3.slots[((1 : Int32)).toNatClampNeg]? = some (.long j1) := H3.at hin3 rfl
    refine X2.laload hx (j := (1 : Int32)) (v := (.long j1)) (by rw [show T2.heap = h0 from e2]; exact Ar3.1) (State.isArrayOf_alike hZ.alike Ar3.2.1) Ar3.2.2 hin3 hat3 (g := (mkF m 8 #[rv o0] [(.int (1 : Int32)), (.ref o2)])) rfl rfl (hb hby d12_8) _ ?_
    show Steps p.tables e below (T2.setTop (mkF m 9 #[rv o0] [(.long j1)])) _
    exact k
  exact own_retL X2 Bd.notSynchronized hx Bd.returns (hb hby d12_9) (by
      try rw [show T2.heap = h0 from e2]
      exact ⟨rfl, N0, rfl⟩) dE_ dE_

def Q13_28 (Z : State) (o0 o3 : Addr) (k1 : ClassId) (j3 j4 j5 : Int64) (h0 : Heap) (n0 : Nat) (v : Option Value) (h : Heap) (L : List Loc) : Prop := v = some (.long j4) ∧ Fr n0 L ∧ h = h0
set_option maxRecDepth 65536 in
set_option maxHeartbeats 40000000 in
theorem rm13_28 (l : Launch) (Z : State) (a0 : Array Value) (hw : oW_ a0 Z) (ws : List Jvm.Cond) (o0 o3 : Addr) (k1 : ClassId) (j3 j4 j5 : Int64) (h0 : Heap) (n0 : Nat) (Z0 : n0 ≤ h0.size) (F_sizes_o0 : Fld Z h0 o0 c0_ "sizes" "[J" (.ref o3)) (F_best_o0 : Fld Z h0 o0 c0_ "best" "I" (.int (1 : Int32))) (V_o3 : Arv Z h0 o3 k1 .long (8 : Int32) [(.long j3), (.long j4), (.long j5)] oY) :
    MetFree l y6_ (head1 (Jvm.Cond.code y6_ prog_3_method_3_code 1 (some .long) :: ws) (rM_ 0 0 0 0)) (fun a U => a = #[(.ref o0)] ∧ Z.Warmed39 U.vm ∧ U.heap = h0) (fun _ _ _ _ _ => True) (fun _ U o U' => ∃ v L, o = .returned v ∧ Q13_28 Z o0 o3 k1 j3 j4 j5 h0 n0 v U'.heap L ∧ FrameEnd U o U' L (rM_ 0 0 0 0).cells (rM_ 0 0 0 0).slots) := by
  refine MetFree.of_bodySF (plainFor_of_name pn_13) hisR ?_
  intro p e s m args below meth c s₁ Bd hml0 hP hK
  obtain ⟨rfl, hZ, hh⟩ := hP
  have hx := Bd.exec
  have hby := Bd.bytes
  have hml : c.maxLocals = 1 := hml0
  have hown : s.vm.findClass c0_ = some m.cls := findClass_of_methodNamed Bd.named
  have hnm := (name_of_methodNamed Bd.named Bd.method).1
  have X0 : Stand p l e (rM_ 0 0 0 0) s m #[(.ref o0)] below meth c s₁ [] 0 0 := Stand.of_body Bd
  have e0 : s₁.heap = h0 := by rw [← hh, Bd.state]; rfl
  have N0 := Fr.nil n0
  change own_Go p e below (own_Post s (Q13_28 Z o0 o3 k1 j3 j4 j5 h0 n0) (rM_ 0 0 0 0).cells (rM_ 0 0 0 0).slots) (s₁.setTop (entryFrame m #[(.ref o0)] 1))
  refine own_by (fun t k => castTop (ef_13 m o0) k) ?_
  show own_Go p e below _ (s₁.setTop (mkF m 0 #[rv o0] []))
  refine own_by (B := s₁.setTop (mkF m 1 #[rv o0] [(.ref o0)])) (fun t k => ?_) ?_
  · refine XS.aloadN X0.here hx rfl (hb hby d13_0) rfl rfl ?_
    exact k
  refine own_c1 (getF X0 hx hZ hown (host := "") (Or.inl (hW hw 13 rfl)) Via.refl e0 F_sizes_o0 rfl rfl (hb hby d13_1)) fun T1 X1 e1 => ?_
  show own_Go p e below _ (T1.setTop (mkF m 4 #[rv o0] [(.ref o3)]))
  refine own_by (B := T1.setTop (mkF m 5 #[rv o0] [(.ref o0), (.ref o3)])) (fun t k => ?_) ?_
  · refine XS.aloadN X1.here hx rfl (hb hby d13_4) rfl rfl ?_
    exact k
  refine own_c1 (getF X1 hx hZ hown (host := "") (Or.inl (hW hw 25 rfl)) Via.refl e1 F_best_o0 rfl rfl (hb hby d13_5)) fun T2 X2 e2 => ?_
  show own_Go p e below _ (T2.setTop (mkF m 8 #[rv o0] [(.int (1 : Int32)), (.ref o3)]))
  refine own_by (B := T2.setTop (mkF m 9 #[rv o0] [(.long j4)])) (fun t k => ?_) ?_
  · obtain ⟨cl3, Ar3, q3, S3, N3, H3, G3⟩ := id V_o3
    have hin3 : ¬ ((1 : Int32) < 0 ∨ cl3.slots.size ≤ ((1 : Int32)).toNatClampNeg) := inb_of S3 ⟨by decide, by decide⟩
    have hat3 : cl3.slots[((1 : Int32)).toNatClampNeg]? = some (.long j4) := H3.at hin3 rfl
    refine X2.laload hx (j := (1 : Int32)) (v := (.long j4)) (by rw [show T2.heap = h0 from e2]; exact Ar3.1) (State.isArrayOf_alike hZ.alike Ar3.2.1) Ar3.2.2 hin3 hat3 (g := (mkF m 8 #[rv o0] [(.int (1 : Int32)), (.ref o3)])) rfl rfl (hb hby d13_8) _ ?_
    show Steps p.tables e below (T2.setTop (mkF m 9 #[rv o0] [(.long j4)])) _
    exact k
  exact own_retL X2 Bd.notSynchronized hx Bd.returns (hb hby d13_9) (by
      try rw [show T2.heap = h0 from e2]
      exact ⟨rfl, N0, rfl⟩) dE_ dE_

def Q5_29 (Z : State) (o0 : Addr) (j0 j1 : Int64) (o2 o3 : Addr) (o4 o5 o6 : Addr) (i0 i1 : Int32) (i2 i3 i4 : Int32) (k0 : ClassId) (j2 j3 j4 : Int64) (k1 : ClassId) (j5 j6 j7 : Int64) (k2 : ClassId) (i5 i6 i7 : Int32) (k3 : ClassId) (i8 i9 i10 : Int32) (k4 : ClassId) (i11 i12 i13 : Int32) (h0 : Heap) (n0 : Nat) (v : Option Value) (h : Heap) (L : List Loc) : Prop := v = some (.int (2 : Int32)) ∧ Fr n0 L ∧ Keep h0 h [o0, o2, o3, o4, o5, o6] ∧ Exa Z h o0 c0_ ∧ Fld Z h o0 c0_ "prices" "[J" (.ref o2) ∧ Fld Z h o0 c0_ "sizes" "[J" (.ref o3) ∧ Fld Z h o0 c0_ "left" "[I" (.ref o4) ∧ Fld Z h o0 c0_ "right" "[I" (.ref o5) ∧ Fld Z h o0 c0_ "heights" "[B" (.ref o6) ∧ Fld Z h o0 c0_ "root" "I" (.int i0) ∧ Fld Z h o0 c0_ "best" "I" (.int i1) ∧ Fld Z h o0 c0_ "unused" "I" (.int (3 : Int32)) ∧ Fld Z h o0 c0_ "free" "I" (.int i2) ∧ Fld Z h o0 c0_ "count" "I" (.int (i3 + (1 : Int32))) ∧ Fld Z h o0 c0_ "highestFirst" "Z" (.int i4) ∧ Arv Z h o2 k0 .long (8 : Int32) [(.long j2), (.long j3), (.long j0)] oY ∧ Arv Z h o3 k1 .long (8 : Int32) [(.long j5), (.long j6), (.long j1)] oY ∧ Arv Z h o4 k2 .int (8 : Int32) [(.int i5), (.int i6), oZ] oZ ∧ Arv Z h o5 k3 .int (8 : Int32) [(.int i8), (.int i9), oZ] oZ ∧ Arv Z h o6 k4 .byte (8 : Int32) [(.int i11), (.int i12), (.int (1 : Int32))] oZ
set_option maxRecDepth 65536 in
set_option maxHeartbeats 40000000 in
theorem rm5_29 (l : Launch) (Z : State) (a0 : Array Value) (hw : oW_ a0 Z) (ws : List Jvm.Cond) (o0 : Addr) (j0 j1 : Int64) (o2 o3 : Addr) (o4 o5 o6 : Addr) (i0 i1 : Int32) (i2 i3 i4 : Int32) (k0 : ClassId) (j2 j3 j4 : Int64) (k1 : ClassId) (j5 j6 j7 : Int64) (k2 : ClassId) (i5 i6 i7 : Int32) (k3 : ClassId) (i8 i9 i10 : Int32) (k4 : ClassId) (i11 i12 i13 : Int32) (h0 : Heap) (n0 : Nat) (Z0 : n0 ≤ h0.size) (E_o0 : Exa Z h0 o0 c0_) (g_o0 : n0 ≤ o0) (F_prices_o0 : Fld Z h0 o0 c0_ "prices" "[J" (.ref o2)) (F_sizes_o0 : Fld Z h0 o0 c0_ "sizes" "[J" (.ref o3)) (F_left_o0 : Fld Z h0 o0 c0_ "left" "[I" (.ref o4)) (F_right_o0 : Fld Z h0 o0 c0_ "right" "[I" (.ref o5)) (F_heights_o0 : Fld Z h0 o0 c0_ "heights" "[B" (.ref o6)) (F_root_o0 : Fld Z h0 o0 c0_ "root" "I" (.int i0)) (F_best_o0 : Fld Z h0 o0 c0_ "best" "I" (.int i1)) (F_unused_o0 : Fld Z h0 o0 c0_ "unused" "I" (.int (2 : Int32))) (F_free_o0 : Fld Z h0 o0 c0_ "free" "I" (.int i2)) (F_count_o0 : Fld Z h0 o0 c0_ "count" "I" (.int i3)) (F_highestFirst_o0 : Fld Z h0 o0 c0_ "highestFirst" "Z" (.int i4)) (g_o2 : n0 ≤ o2) (V_o2 : Arv Z h0 o2 k0 .long (8 : Int32) [(.long j2), (.long j3), (.long j4)] oY) (g_o3 : n0 ≤ o3) (V_o3 : Arv Z h0 o3 k1 .long (8 : Int32) [(.long j5), (.long j6), (.long j7)] oY) (g_o4 : n0 ≤ o4) (V_o4 : Arv Z h0 o4 k2 .int (8 : Int32) [(.int i5), (.int i6), (.int i7)] oZ) (g_o5 : n0 ≤ o5) (V_o5 : Arv Z h0 o5 k3 .int (8 : Int32) [(.int i8), (.int i9), (.int i10)] oZ) (g_o6 : n0 ≤ o6) (V_o6 : Arv Z h0 o6 k4 .byte (8 : Int32) [(.int i11), (.int i12), (.int i13)] oZ) (hp0 : i2 = (0 : Int32)) (ne_o3_o2 : o3 ≠ o2) (ne_o4_o2 : o4 ≠ o2) (ne_o5_o2 : o5 ≠ o2) (ne_o6_o2 : o6 ≠ o2) (ne_o4_o3 : o4 ≠ o3) (ne_o5_o3 : o5 ≠ o3) (ne_o6_o3 : o6 ≠ o3) (ne_o5_o4 : o5 ≠ o4) (ne_o6_o4 : o6 ≠ o4) (ne_o6_o5 : o6 ≠ o5) :
    MetFree l y13_ (head1 (Jvm.Cond.code y13_ prog_3_method_14_code 6 (some .int) :: ws) (rM_ 0 0 0 0)) (fun a U => a = #[(.ref o0), (.long j0), (.long j1)] ∧ Z.Warmed39 U.vm ∧ U.heap = h0) (fun _ _ _ _ _ => True) (fun _ U o U' => ∃ v L, o = .returned v ∧ Q5_29 Z o0 j0 j1 o2 o3 o4 o5 o6 i0 i1 i2 i3 i4 k0 j2 j3 j4 k1 j5 j6 j7 k2 i5 i6 i7 k3 i8 i9 i10 k4 i11 i12 i13 h0 n0 v U'.heap L ∧ FrameEnd U o U' L (rM_ 0 0 0 0).cells (rM_ 0 0 0 0).slots) := by
  refine MetFree.of_bodySF (plainFor_of_name pn_5) hisR ?_
  intro p e s m args below meth c s₁ Bd hml0 hP hK
  obtain ⟨rfl, hZ, hh⟩ := hP
  have hx := Bd.exec
  have hby := Bd.bytes
  have hml : c.maxLocals = 6 := hml0
  have hown : s.vm.findClass c0_ = some m.cls := findClass_of_methodNamed Bd.named
  have hnm := (name_of_methodNamed Bd.named Bd.method).1
  have X0 : Stand p l e (rM_ 0 0 0 0) s m #[(.ref o0), (.long j0), (.long j1)] below meth c s₁ [] 0 0 := Stand.of_body Bd
  have e0 : s₁.heap = h0 := by rw [← hh, Bd.state]; rfl
  have N0 := Fr.nil n0
  have K0 : Keep h0 h0 [o0, o2, o3, o4, o5, o6] := Keep.refl h0 _
  change own_Go p e below (own_Post s (Q5_29 Z o0 j0 j1 o2 o3 o4 o5 o6 i0 i1 i2 i3 i4 k0 j2 j3 j4 k1 j5 j6 j7 k2 i5 i6 i7 k3 i8 i9 i10 k4 i11 i12 i13 h0 n0) (rM_ 0 0 0 0).cells (rM_ 0 0 0 0).slots) (s₁.setTop (entryFrame m #[(.ref o0), (.long j0), (.long j1)] 6))
  refine own_by (fun t k => castTop (ef_5 m o0 j0 j1) k) ?_
  show own_Go p e below _ (s₁.setTop (mkF m 0 (lA1_ o0 j0 j1) []))
  refine own_by (B := s₁.setTop (mkF m 1 (lA1_ o0 j0 j1) [(.ref o0)])) (fun t k => ?_) ?_
  · refine XS.aloadN X0.here hx rfl (hb hby d5_0) rfl rfl ?_
    exact k
  refine own_c1 (getF X0 hx hZ hown (host := "") (Or.inl (hW hw 29 rfl)) Via.refl e0 F_free_o0 rfl rfl (hb hby d5_1)) fun T1 X1 e1 => ?_
  show own_Go p e below _ (T1.setTop (mkF m 4 (lA1_ o0 j0 j1) [(.int i2)]))
  refine own_by (B := T1.setTop (mkF m 29 (lA1_ o0 j0 j1) [(.ref o0), (.ref o0)])) (fun t k => ?_) ?_
  · refine XS.ifYes X1.here hx rfl (pc0 := 4) (pc' := 27) rfl (hb hby d5_4) rfl ((if0 _ _).trans (teq hp0).1) dE_ dE_ ?_
    show Steps p.tables e below (T1.setTop (mkF m 27 (lA1_ o0 j0 j1) [])) _
    refine XS.aloadN X1.here hx rfl (hb hby d5_27) rfl rfl ?_
    refine XS.dup X1.here hx rfl (hb hby d5_28) rfl rfl ?_
    exact k
  refine own_c1 (getF X1 hx hZ hown (host := "") (Or.inl (hW hw 27 rfl)) Via.refl e1 F_unused_o0 rfl rfl (hb hby d5_29)) fun T2 X2 e2 => ?_
  show own_Go p e below _ (T2.setTop (mkF m 32 (lA1_ o0 j0 j1) [(.int (2 : Int32)), (.ref o0)]))
  refine own_by (B := T2.setTop (mkF m 35 (lA1_ o0 j0 j1) [(.int (3 : Int32)), (.ref o0), (.int (2 : Int32))])) (fun t k => ?_) ?_
  · refine XS.dupX1 X2.here hx rfl (hb hby d5_32) rfl rfl rfl ?_
    show Steps p.tables e below (T2.setTop (mkF m 33 (lA1_ o0 j0 j1) [(.int (2 : Int32)), (.ref o0), (.int (2 : Int32))])) _
    refine XS.iconst X2.here hx rfl (hb hby d5_33) ?_
    refine XS.iadd X2.here hx rfl (hb hby d5_34) rfl ?_
    show Steps p.tables e below (T2.setTop (mkF m 35 (lA1_ o0 j0 j1) [(.int (3 : Int32)), (.ref o0), (.int (2 : Int32))])) _
    exact k
  refine own_c2 (putF X2 hx hZ hown (host := "") (Or.inl (hW hw 27 rfl)) Via.refl e2 F_unused_o0 E_o0 (Or.inl (hW hw 28 rfl)) (hW hw 2 rfl) (ty := .int) dE_ rfl rfl rfl rfl (hb hby d5_35)) fun T3 h3 X3 e3 W3 => ?_
  replace F_unused_o0 := F_unused_o0.same W3
  have nx1 : o2 ≠ o0 := (Ne.symm (own_nev E_o0 (hW hw 2 rfl) V_o2))
  have nx2 : o3 ≠ o0 := (Ne.symm (own_nev E_o0 (hW hw 2 rfl) V_o3))
  have nx3 : o4 ≠ o0 := (Ne.symm (own_nev E_o0 (hW hw 2 rfl) V_o4))
  have nx4 : o5 ≠ o0 := (Ne.symm (own_nev E_o0 (hW hw 2 rfl) V_o5))
  have nx5 : o6 ≠ o0 := (Ne.symm (own_nev E_o0 (hW hw 2 rfl) V_o6))
  replace E_o0 := E_o0.wr W3
  replace F_prices_o0 := F_prices_o0.other W3 (Or.inr (sn4 hw))
  replace F_sizes_o0 := F_sizes_o0.other W3 (Or.inr (sn5 hw))
  replace F_left_o0 := F_left_o0.other W3 (Or.inr (sn6 hw))
  replace F_right_o0 := F_right_o0.other W3 (Or.inr (sn7 hw))
  replace F_heights_o0 := F_heights_o0.other W3 (Or.inr (sn8 hw))
  replace F_root_o0 := F_root_o0.other W3 (Or.inr (sn9 hw))
  replace F_best_o0 := F_best_o0.other W3 (Or.inr (sn10 hw))
  replace F_free_o0 := F_free_o0.other W3 (Or.inr (sn11 hw))
  replace F_count_o0 := F_count_o0.other W3 (Or.inr (sn12 hw))
  replace F_highestFirst_o0 := F_highestFirst_o0.other W3 (Or.inr (sn13 hw))
  replace V_o2 := V_o2.other W3 nx1
  replace V_o3 := V_o3.other W3 nx2
  replace V_o4 := V_o4.other W3 nx3
  replace V_o5 := V_o5.other W3 nx4
  replace V_o6 := V_o6.other W3 nx5
  replace K0 := K0.wr W3 (Or.inl (List.mem_of_getElem? (i := 0) rfl))
  replace Z0 := Nat.le_trans Z0 (Keep.of_wr W3).1
  replace N0 := Fr.snoc X3 N0 g_o0
  show own_Go p e below _ (T3.setTop (mkF m 38 (lA1_ o0 j0 j1) [(.int (2 : Int32))]))
  refine own_by (B := T3.setTop (mkF m 41 (lA2_ o0 j0 j1 (2 : Int32)) [(.ref o0)])) (fun t k => ?_) ?_
  · refine XS.istore X3.here hx rfl (hb hby d5_38) rfl (l' := (lA2_ o0 j0 j1 (2 : Int32))) rfl ?_
    show Steps p.tables e below (T3.setTop (mkF m 40 (lA2_ o0 j0 j1 (2 : Int32)) [])) _
    refine XS.aloadN X3.here hx rfl (hb hby d5_40) rfl rfl ?_
    exact k
  refine own_c1 (getF X3 hx hZ hown (host := "") (Or.inl (hW hw 11 rfl)) Via.refl e3 F_prices_o0 rfl rfl (hb hby d5_41)) fun T4 X4 e4 => ?_
  show own_Go p e below _ (T4.setTop (mkF m 44 (lA2_ o0 j0 j1 (2 : Int32)) [(.ref o2)]))
  refine own_by (B := T4.setTop (mkF m 47 (lA2_ o0 j0 j1 (2 : Int32)) [(.long j0), (.int (2 : Int32)), (.ref o2)])) (fun t k => ?_) ?_
  · refine XS.iload X4.here hx rfl (hb hby d5_44) rfl ?_
    refine XS.lloadN X4.here hx rfl (hb hby d5_46) rfl ?_
    exact k
  obtain ⟨cl5, Ar5, q5, S5, N5, H5, G5⟩ := V_o2
  have hin5 : ¬ ((2 : Int32) < 0 ∨ cl5.slots.size ≤ ((2 : Int32)).toNatClampNeg) := inb_of S5 ⟨by decide, by decide⟩
  refine own_c2 (stJ X4 hx hZ e4 Ar5 (j := (2 : Int32)) hin5 rfl rfl (hb hby d5_47)) fun T5 h5 X5 e5 W5 => ?_
  replace V_o2 : Arv Z h5 o2 k0 .long (8 : Int32) [(.long j2), (.long j3), (.long j0)] oY := Arv.set Ar5 q5 S5 N5 H5 G5 rfl W5 2 rfl nB_
  replace E_o0 := E_o0.wr W5
  replace F_prices_o0 := F_prices_o0.other W5 (Or.inl (Ne.symm nx1))
  replace F_sizes_o0 := F_sizes_o0.other W5 (Or.inl (Ne.symm nx1))
  replace F_left_o0 := F_left_o0.other W5 (Or.inl (Ne.symm nx1))
  replace F_right_o0 := F_right_o0.other W5 (Or.inl (Ne.symm nx1))
  replace F_heights_o0 := F_heights_o0.other W5 (Or.inl (Ne.symm nx1))
  replace F_root_o0 := F_root_o0.other W5 (Or.inl (Ne.symm nx1))
  replace F_best_o0 := F_best_o0.other W5 (Or.inl (Ne.symm nx1))
  replace F_unused_o0 := F_unused_o0.other W5 (Or.inl (Ne.symm nx1))
  replace F_free_o0 := F_free_o0.other W5 (Or.inl (Ne.symm nx1))
  replace F_count_o0 := F_count_o0.other W5 (Or.inl (Ne.symm nx1))
  replace F_highestFirst_o0 := F_highestFirst_o0.other W5 (Or.inl (Ne.symm nx1))
  replace V_o3 := V_o3.other W5 ne_o3_o2
  replace V_o4 := V_o4.other W5 ne_o4_o2
  replace V_o5 := V_o5.other W5 ne_o5_o2
  replace V_o6 := V_o6.other W5 ne_o6_o2
  replace K0 := K0.wr W5 (Or.inl (List.mem_of_getElem? (i := 1) rfl))
  replace Z0 := Nat.le_trans Z0 (Keep.of_wr W5).1
  replace N0 := Fr.snoc X5 N0 g_o2
  show own_Go p e below _ (T5.setTop (mkF m 48 (lA2_ o0 j0 j1 (2 : Int32)) []))
  refine own_by (B := T5.setTop (mkF m 49 (lA2_ o0 j0 j1 (2 : Int32)) [(.ref o0)])) (fun t k => ?_) ?_
  · refine XS.aloadN X5.here hx rfl (hb hby d5_48) rfl rfl ?_
    exact k
  refine own_c1 (getF X5 hx hZ hown (host := "") (Or.inl (hW hw 13 rfl)) Via.refl e5 F_sizes_o0 rfl rfl (hb hby d5_49)) fun T6 X6 e6 => ?_
  show own_Go p e below _ (T6.setTop (mkF m 52 (lA2_ o0 j0 j1 (2 : Int32)) [(.ref o3)]))
  refine own_by (B := T6.setTop (mkF m 55 (lA2_ o0 j0 j1 (2 : Int32)) [(.long j1), (.int (2 : Int32)), (.ref o3)])) (fun t k => ?_) ?_
  · refine XS.iload X6.here hx rfl (hb hby d5_52) rfl ?_
    refine XS.lloadN X6.here hx rfl (hb hby d5_54) rfl ?_
    exact k
  obtain ⟨cl7, Ar7, q7, S7, N7, H7, G7⟩ := V_o3
  have hin7 : ¬ ((2 : Int32) < 0 ∨ cl7.slots.size ≤ ((2 : Int32)).toNatClampNeg) := inb_of S7 ⟨by decide, by decide⟩
  refine own_c2 (stJ X6 hx hZ e6 Ar7 (j := (2 : Int32)) hin7 rfl rfl (hb hby d5_55)) fun T7 h7 X7 e7 W7 => ?_
  replace V_o3 : Arv Z h7 o3 k1 .long (8 : Int32) [(.long j5), (.long j6), (.long j1)] oY := Arv.set Ar7 q7 S7 N7 H7 G7 rfl W7 2 rfl nB_
  replace E_o0 := E_o0.wr W7
  replace F_prices_o0 := F_prices_o0.other W7 (Or.inl (Ne.symm nx2))
  replace F_sizes_o0 := F_sizes_o0.other W7 (Or.inl (Ne.symm nx2))
  replace F_left_o0 := F_left_o0.other W7 (Or.inl (Ne.symm nx2))
  replace F_right_o0 := F_right_o0.other W7 (Or.inl (Ne.symm nx2))
  replace F_heights_o0 := F_heights_o0.other W7 (Or.inl (Ne.symm nx2))
  replace F_root_o0 := F_root_o0.other W7 (Or.inl (Ne.symm nx2))
  replace F_best_o0 := F_best_o0.other W7 (Or.inl (Ne.symm nx2))
  replace F_unused_o0 := F_unused_o0.other W7 (Or.inl (Ne.symm nx2))
  replace F_free_o0 := F_free_o0.other W7 (Or.inl (Ne.symm nx2))
  replace F_count_o0 := F_count_o0.other W7 (Or.inl (Ne.symm nx2))
  replace F_highestFirst_o0 := F_highestFirst_o0.other W7 (Or.inl (Ne.symm nx2))
  replace V_o2 := V_o2.other W7 (Ne.symm ne_o3_o2)
  replace V_o4 := V_o4.other W7 ne_o4_o3
  replace V_o5 := V_o5.other W7 ne_o5_o3
  replace V_o6 := V_o6.other W7 ne_o6_o3
  replace K0 := K0.wr W7 (Or.inl (List.mem_of_getElem? (i := 2) rfl))
  replace Z0 := Nat.le_trans Z0 (Keep.of_wr W7).1
  replace N0 := Fr.snoc X7 N0 g_o3
  show own_Go p e below _ (T7.setTop (mkF m 56 (lA2_ o0 j0 j1 (2 : Int32)) []))
  refine own_by (B := T7.setTop (mkF m 57 (lA2_ o0 j0 j1 (2 : Int32)) [(.ref o0)])) (fun t k => ?_) ?_
  · refine XS.aloadN X7.here hx rfl (hb hby d5_56) rfl rfl ?_
    exact k
  refine own_c1 (getF X7 hx hZ hown (host := "") (Or.inl (hW hw 16 rfl)) Via.refl e7 F_left_o0 rfl rfl (hb hby d5_57)) fun T8 X8 e8 => ?_
  show own_Go p e below _ (T8.setTop (mkF m 60 (lA2_ o0 j0 j1 (2 : Int32)) [(.ref o4)]))
  refine own_by (B := T8.setTop (mkF m 63 (lA2_ o0 j0 j1 (2 : Int32)) [oZ, (.int (2 : Int32)), (.ref o4)])) (fun t k => ?_) ?_
  · refine XS.iload X8.here hx rfl (hb hby d5_60) rfl ?_
    refine XS.iconst X8.here hx rfl (hb hby d5_62) ?_
    exact k
  obtain ⟨cl9, Ar9, q9, S9, N9, H9, G9⟩ := V_o4
  have hin9 : ¬ ((2 : Int32) < 0 ∨ cl9.slots.size ≤ ((2 : Int32)).toNatClampNeg) := inb_of S9 ⟨by decide, by decide⟩
  refine own_c2 (stI X8 hx hZ e8 Ar9 (j := (2 : Int32)) hin9 rfl rfl (hb hby d5_63)) fun T9 h9 X9 e9 W9 => ?_
  replace V_o4 : Arv Z h9 o4 k2 .int (8 : Int32) [(.int i5), (.int i6), oZ] oZ := Arv.set Ar9 q9 S9 N9 H9 G9 rfl W9 2 rfl nB_
  replace E_o0 := E_o0.wr W9
  replace F_prices_o0 := F_prices_o0.other W9 (Or.inl (Ne.symm nx3))
  replace F_sizes_o0 := F_sizes_o0.other W9 (Or.inl (Ne.symm nx3))
  replace F_left_o0 := F_left_o0.other W9 (Or.inl (Ne.symm nx3))
  replace F_right_o0 := F_right_o0.other W9 (Or.inl (Ne.symm nx3))
  replace F_heights_o0 := F_heights_o0.other W9 (Or.inl (Ne.symm nx3))
  replace F_root_o0 := F_root_o0.other W9 (Or.inl (Ne.symm nx3))
  replace F_best_o0 := F_best_o0.other W9 (Or.inl (Ne.symm nx3))
  replace F_unused_o0 := F_unused_o0.other W9 (Or.inl (Ne.symm nx3))
  replace F_free_o0 := F_free_o0.other W9 (Or.inl (Ne.symm nx3))
  replace F_count_o0 := F_count_o0.other W9 (Or.inl (Ne.symm nx3))
  replace F_highestFirst_o0 := F_highestFirst_o0.other W9 (Or.inl (Ne.symm nx3))
  replace V_o2 := V_o2.other W9 (Ne.symm ne_o4_o2)
  replace V_o3 := V_o3.other W9 (Ne.symm ne_o4_o3)
  replace V_o5 := V_o5.other W9 ne_o5_o4
  replace V_o6 := V_o6.other W9 ne_o6_o4
  replace K0 := K0.wr W9 (Or.inl (List.mem_of_getElem? (i := 3) rfl))
  replace Z0 := Nat.le_trans Z0 (Keep.of_wr W9).1
  replace N0 := Fr.snoc X9 N0 g_o4
  show own_Go p e below _ (T9.setTop (mkF m 64 (lA2_ o0 j0 j1 (2 : Int32)) []))
  refine own_by (B := T9.setTop (mkF m 65 (lA2_ o0 j0 j1 (2 : Int32)) [(.ref o0)])) (fun t k => ?_) ?_
  · refine XS.aloadN X9.here hx rfl (hb hby d5_64) rfl rfl ?_
    exact k
  refine own_c1 (getF X9 hx hZ hown (host := "") (Or.inl (hW hw 18 rfl)) Via.refl e9 F_right_o0 rfl rfl (hb hby d5_65)) fun T10 X10 e10 => ?_
  show own_Go p e below _ (T10.setTop (mkF m 68 (lA2_ o0 j0 j1 (2 : Int32)) [(.ref o5)]))
  refine own_by (B := T10.setTop (mkF m 71 (lA2_ o0 j0 j1 (2 : Int32)) [oZ, (.int (2 : Int32)), (.ref o5)])) (fun t k => ?_) ?_
  · refine XS.iload X10.here hx rfl (hb hby d5_68) rfl ?_
    refine XS.iconst X10.here hx rfl (hb hby d5_70) ?_
    exact k
  obtain ⟨cl11, Ar11, q11, S11, N11, H11, G11⟩ := V_o5
  have hin11 : ¬ ((2 : Int32) < 0 ∨ cl11.slots.size ≤ ((2 : Int32)).toNatClampNeg) := inb_of S11 ⟨by decide, by decide⟩
  refine own_c2 (stI X10 hx hZ e10 Ar11 (j := (2 : Int32)) hin11 rfl rfl (hb hby d5_71)) fun T11 h11 X11 e11 W11 => ?_
  replace V_o5 : Arv Z h11 o5 k3 .int (8 : Int32) [(.int i8), (.int i9), oZ] oZ := Arv.set Ar11 q11 S11 N11 H11 G11 rfl W11 2 rfl nB_
  replace E_o0 := E_o0.wr W11
  replace F_prices_o0 := F_prices_o0.other W11 (Or.inl (Ne.symm nx4))
  replace F_sizes_o0 := F_sizes_o0.other W11 (Or.inl (Ne.symm nx4))
  replace F_left_o0 := F_left_o0.other W11 (Or.inl (Ne.symm nx4))
  replace F_right_o0 := F_right_o0.other W11 (Or.inl (Ne.symm nx4))
  replace F_heights_o0 := F_heights_o0.other W11 (Or.inl (Ne.symm nx4))
  replace F_root_o0 := F_root_o0.other W11 (Or.inl (Ne.symm nx4))
  replace F_best_o0 := F_best_o0.other W11 (Or.inl (Ne.symm nx4))
  replace F_unused_o0 := F_unused_o0.other W11 (Or.inl (Ne.symm nx4))
  replace F_free_o0 := F_free_o0.other W11 (Or.inl (Ne.symm nx4))
  replace F_count_o0 := F_count_o0.other W11 (Or.inl (Ne.symm nx4))
  replace F_highestFirst_o0 := F_highestFirst_o0.other W11 (Or.inl (Ne.symm nx4))
  replace V_o2 := V_o2.other W11 (Ne.symm ne_o5_o2)
  replace V_o3 := V_o3.other W11 (Ne.symm ne_o5_o3)
  replace V_o4 := V_o4.other W11 (Ne.symm ne_o5_o4)
  replace V_o6 := V_o6.other W11 ne_o6_o5
  replace K0 := K0.wr W11 (Or.inl (List.mem_of_getElem? (i := 4) rfl))
  replace Z0 := Nat.le_trans Z0 (Keep.of_wr W11).1
  replace N0 := Fr.snoc X11 N0 g_o5
  show own_Go p e below _ (T11.setTop (mkF m 72 (lA2_ o0 j0 j1 (2 : Int32)) []))
  refine own_by (B := T11.setTop (mkF m 73 (lA2_ o0 j0 j1 (2 : Int32)) [(.ref o0)])) (fun t k => ?_) ?_
  · refine XS.aloadN X11.here hx rfl (hb hby d5_72) rfl rfl ?_
    exact k
  refine own_c1 (getF X11 hx hZ hown (host := "") (Or.inl (hW hw 21 rfl)) Via.refl e11 F_heights_o0 rfl rfl (hb hby d5_73)) fun T12 X12 e12 => ?_
  show own_Go p e below _ (T12.setTop (mkF m 76 (lA2_ o0 j0 j1 (2 : Int32)) [(.ref o6)]))
  refine own_by (B := T12.setTop (mkF m 79 (lA2_ o0 j0 j1 (2 : Int32)) [(.int (1 : Int32)), (.int (2 : Int32)), (.ref o6)])) (fun t k => ?_) ?_
  · refine XS.iload X12.here hx rfl (hb hby d5_76) rfl ?_
    refine XS.iconst X12.here hx rfl (hb hby d5_78) ?_
    exact k
  obtain ⟨cl13, Ar13, q13, S13, N13, H13, G13⟩ := V_o6
  have hin13 : ¬ ((2 : Int32) < 0 ∨ cl13.slots.size ≤ ((2 : Int32)).toNatClampNeg) := inb_of S13 ⟨by decide, by decide⟩
  refine own_c2 (stB X12 hx hZ e12 Ar13 (j := (2 : Int32)) hin13 rfl rfl (hb hby d5_79)) fun T13 h13 X13 e13 W13 => ?_
  replace V_o6 : Arv Z h13 o6 k4 .byte (8 : Int32) [(.int i11), (.int i12), (.int (1 : Int32))] oZ := Arv.set Ar13 q13 S13 N13 H13 G13 rfl W13 2 rfl nB_
  replace E_o0 := E_o0.wr W13
  replace F_prices_o0 := F_prices_o0.other W13 (Or.inl (Ne.symm nx5))
  replace F_sizes_o0 := F_sizes_o0.other W13 (Or.inl (Ne.symm nx5))
  replace F_left_o0 := F_left_o0.other W13 (Or.inl (Ne.symm nx5))
  replace F_right_o0 := F_right_o0.other W13 (Or.inl (Ne.symm nx5))
  replace F_heights_o0 := F_heights_o0.other W13 (Or.inl (Ne.symm nx5))
  replace F_root_o0 := F_root_o0.other W13 (Or.inl (Ne.symm nx5))
  replace F_best_o0 := F_best_o0.other W13 (Or.inl (Ne.symm nx5))
  replace F_unused_o0 := F_unused_o0.other W13 (Or.inl (Ne.symm nx5))
  replace F_free_o0 := F_free_o0.other W13 (Or.inl (Ne.symm nx5))
  replace F_count_o0 := F_count_o0.other W13 (Or.inl (Ne.symm nx5))
  replace F_highestFirst_o0 := F_highestFirst_o0.other W13 (Or.inl (Ne.symm nx5))
  replace V_o2 := V_o2.other W13 (Ne.symm ne_o6_o2)
  replace V_o3 := V_o3.other W13 (Ne.symm ne_o6_o3)
  replace V_o4 := V_o4.other W13 (Ne.symm ne_o6_o4)
  replace V_o5 := V_o5.other W13 (Ne.symm ne_o6_o5)
  replace K0 := K0.wr W13 (Or.inl (List.mem_of_getElem? (i := 5) rfl))
  replace Z0 := Nat.le_trans Z0 (Keep.of_wr W13).1
  replace N0 := Fr.snoc X13 N0 g_o6
  show own_Go p e below _ (T13.setTop (mkF m 80 (lA2_ o0 j0 j1 (2 : Int32)) []))
  refine own_by (B := T13.setTop (mkF m 82 (lA2_ o0 j0 j1 (2 : Int32)) [(.ref o0), (.ref o0)])) (fun t k => ?_) ?_
  · refine XS.aloadN X13.here hx rfl (hb hby d5_80) rfl rfl ?_
    refine XS.dup X13.here hx rfl (hb hby d5_81) rfl rfl ?_
    exact k
  refine own_c1 (getF X13 hx hZ hown (host := "") (Or.inl (hW hw 46 rfl)) Via.refl e13 F_count_o0 rfl rfl (hb hby d5_82)) fun T14 X14 e14 => ?_
  show own_Go p e below _ (T14.setTop (mkF m 85 (lA2_ o0 j0 j1 (2 : Int32)) [(.int i3), (.ref o0)]))
  refine own_by (B := T14.setTop (mkF m 87 (lA2_ o0 j0 j1 (2 : Int32)) [(.int (i3 + (1 : Int32))), (.ref o0)])) (fun t k => ?_) ?_
  · refine XS.iconst X14.here hx rfl (hb hby d5_85) ?_
    refine XS.iadd X14.here hx rfl (hb hby d5_86) rfl ?_
    show Steps p.tables e below (T14.setTop (mkF m 87 (lA2_ o0 j0 j1 (2 : Int32)) [(.int (i3 + (1 : Int32))), (.ref o0)])) _
    exact k
  refine own_c2 (putF X14 hx hZ hown (host := "") (Or.inl (hW hw 46 rfl)) Via.refl e14 F_count_o0 E_o0 (Or.inl (hW hw 47 rfl)) (hW hw 2 rfl) (ty := .int) dE_ rfl rfl rfl rfl (hb hby d5_87)) fun T15 h15 X15 e15 W15 => ?_
  replace F_count_o0 := F_count_o0.same W15
  replace E_o0 := E_o0.wr W15
  replace F_prices_o0 := F_prices_o0.other W15 (Or.inr (sn14 hw))
  replace F_sizes_o0 := F_sizes_o0.other W15 (Or.inr (sn15 hw))
  replace F_left_o0 := F_left_o0.other W15 (Or.inr (sn16 hw))
  replace F_right_o0 := F_right_o0.other W15 (Or.inr (sn17 hw))
  replace F_heights_o0 := F_heights_o0.other W15 (Or.inr (sn18 hw))
  replace F_root_o0 := F_root_o0.other W15 (Or.inr (sn19 hw))
  replace F_best_o0 := F_best_o0.other W15 (Or.inr (sn20 hw))
  replace F_unused_o0 := F_unused_o0.other W15 (Or.inr (sn21 hw))
  replace F_free_o0 := F_free_o0.other W15 (Or.inr (sn22 hw))
  replace F_highestFirst_o0 := F_highestFirst_o0.other W15 (Or.inr (sn23 hw))
  replace V_o2 := V_o2.other W15 nx1
  replace V_o3 := V_o3.other W15 nx2
  replace V_o4 := V_o4.other W15 nx3
  replace V_o5 := V_o5.other W15 nx4
  replace V_o6 := V_o6.other W15 nx5
  replace K0 := K0.wr W15 (Or.inl (List.mem_of_getElem? (i := 0) rfl))
  replace Z0 := Nat.le_trans Z0 (Keep.of_wr W15).1
  replace N0 := Fr.snoc X15 N0 g_o0
  show own_Go p e below _ (T15.setTop (mkF m 90 (lA2_ o0 j0 j1 (2 : Int32)) []))
  refine own_by (B := T15.setTop (mkF m 92 (lA2_ o0 j0 j1 (2 : Int32)) [(.int (2 : Int32))])) (fun t k => ?_) ?_
  · refine XS.iload X15.here hx rfl (hb hby d5_90) rfl ?_
    exact k
  exact own_retI X15 Bd.notSynchronized hx Bd.returns (hb hby d5_92) (by
      try rw [show T15.heap = h15 from e15]
      exact ⟨rfl, N0, K0, E_o0, F_prices_o0, F_sizes_o0, F_left_o0, F_right_o0, F_heights_o0, F_root_o0, F_best_o0, F_unused_o0, F_free_o0, F_count_o0, F_highestFirst_o0, V_o2, V_o3, V_o4, V_o5, V_o6⟩) dE_ dE_

def Q4_30 (Z : State) (o0 : Addr) (i0 : Int32) (j0 j1 : Int64) (o2 o3 : Addr) (o4 o5 o6 : Addr) (i1 i2 : Int32) (i3 i4 i5 : Int32) (k0 : ClassId) (j2 j3 j4 : Int64) (k1 : ClassId) (j5 j6 j7 : Int64) (k2 : ClassId) (i6 i7 : Int32) (k3 : ClassId) (i8 i9 i10 : Int32) (k4 : ClassId) (i11 i12 i13 : Int32) (h0 : Heap) (n0 : Nat) (v : Option Value) (h : Heap) (L : List Loc) : Prop := v = some (.int (2 : Int32)) ∧ Fr n0 L ∧ Keep h0 h [o6, o5, o4, o3, o2, o0] ∧ Arv Z h o6 k4 .byte (8 : Int32) [(.int i11), (.int i12), (.int (1 : Int32))] oZ ∧ Arv Z h o5 k3 .int (8 : Int32) [(.int i8), (.int i9), oZ] oZ ∧ Arv Z h o4 k2 .int (8 : Int32) [(.int i6), (.int i0), oZ] oZ ∧ Arv Z h o3 k1 .long (8 : Int32) [(.long j5), (.long j6), (.long j1)] oY ∧ Arv Z h o2 k0 .long (8 : Int32) [(.long j2), (.long j3), (.long j0)] oY ∧ Exa Z h o0 c0_ ∧ Fld Z h o0 c0_ "prices" "[J" (.ref o2) ∧ Fld Z h o0 c0_ "sizes" "[J" (.ref o3) ∧ Fld Z h o0 c0_ "left" "[I" (.ref o4) ∧ Fld Z h o0 c0_ "right" "[I" (.ref o5) ∧ Fld Z h o0 c0_ "heights" "[B" (.ref o6) ∧ Fld Z h o0 c0_ "root" "I" (.int i1) ∧ Fld Z h o0 c0_ "best" "I" (.int i2) ∧ Fld Z h o0 c0_ "unused" "I" (.int (3 : Int32)) ∧ Fld Z h o0 c0_ "free" "I" (.int i3) ∧ Fld Z h o0 c0_ "count" "I" (.int (i4 + (1 : Int32))) ∧ Fld Z h o0 c0_ "highestFirst" "Z" (.int i5)
set_option maxRecDepth 65536 in
set_option maxHeartbeats 40000000 in
theorem rm4_30 (l : Launch) (Z : State) (a0 : Array Value) (hw : oW_ a0 Z) (ws : List Jvm.Cond) (o0 : Addr) (i0 : Int32) (j0 j1 : Int64) (o2 o3 : Addr) (o4 o5 o6 : Addr) (i1 i2 : Int32) (i3 i4 i5 : Int32) (k0 : ClassId) (j2 j3 j4 : Int64) (k1 : ClassId) (j5 j6 j7 : Int64) (k2 : ClassId) (i6 i7 : Int32) (k3 : ClassId) (i8 i9 i10 : Int32) (k4 : ClassId) (i11 i12 i13 : Int32) (h0 : Heap) (n0 : Nat) (Z0 : n0 ≤ h0.size) (E_o0 : Exa Z h0 o0 c0_) (g_o0 : n0 ≤ o0) (F_prices_o0 : Fld Z h0 o0 c0_ "prices" "[J" (.ref o2)) (F_sizes_o0 : Fld Z h0 o0 c0_ "sizes" "[J" (.ref o3)) (F_left_o0 : Fld Z h0 o0 c0_ "left" "[I" (.ref o4)) (F_right_o0 : Fld Z h0 o0 c0_ "right" "[I" (.ref o5)) (F_heights_o0 : Fld Z h0 o0 c0_ "heights" "[B" (.ref o6)) (F_root_o0 : Fld Z h0 o0 c0_ "root" "I" (.int i1)) (F_best_o0 : Fld Z h0 o0 c0_ "best" "I" (.int i2)) (F_unused_o0 : Fld Z h0 o0 c0_ "unused" "I" (.int (2 : Int32))) (F_free_o0 : Fld Z h0 o0 c0_ "free" "I" (.int i3)) (F_count_o0 : Fld Z h0 o0 c0_ "count" "I" (.int i4)) (F_highestFirst_o0 : Fld Z h0 o0 c0_ "highestFirst" "Z" (.int i5)) (g_o2 : n0 ≤ o2) (V_o2 : Arv Z h0 o2 k0 .long (8 : Int32) [(.long j2), (.long j3), (.long j4)] oY) (g_o3 : n0 ≤ o3) (V_o3 : Arv Z h0 o3 k1 .long (8 : Int32) [(.long j5), (.long j6), (.long j7)] oY) (g_o4 : n0 ≤ o4) (V_o4 : Arv Z h0 o4 k2 .int (8 : Int32) [(.int i6), (.int i0), (.int i7)] oZ) (g_o5 : n0 ≤ o5) (V_o5 : Arv Z h0 o5 k3 .int (8 : Int32) [(.int i8), (.int i9), (.int i10)] oZ) (g_o6 : n0 ≤ o6) (V_o6 : Arv Z h0 o6 k4 .byte (8 : Int32) [(.int i11), (.int i12), (.int i13)] oZ) (hp0 : i0 = (0 : Int32)) (hp1 : i3 = (0 : Int32)) (ne_o3_o2 : o3 ≠ o2) (ne_o4_o2 : o4 ≠ o2) (ne_o5_o2 : o5 ≠ o2) (ne_o6_o2 : o6 ≠ o2) (ne_o4_o3 : o4 ≠ o3) (ne_o5_o3 : o5 ≠ o3) (ne_o6_o3 : o6 ≠ o3) (ne_o5_o4 : o5 ≠ o4) (ne_o6_o4 : o6 ≠ o4) (ne_o6_o5 : o6 ≠ o5) :
    MetFree l y14_ (head1 (Jvm.Cond.code y14_ prog_3_method_8_code 7 (some .int) :: ws) (rM_ 1 0 0 17)) (fun a U => a = #[(.ref o0), (.int i0), (.long j0), (.long j1)] ∧ Z.Warmed39 U.vm ∧ U.heap = h0) (fun _ _ _ _ _ => True) (fun _ U o U' => ∃ v L, o = .returned v ∧ Q4_30 Z o0 i0 j0 j1 o2 o3 o4 o5 o6 i1 i2 i3 i4 i5 k0 j2 j3 j4 k1 j5 j6 j7 k2 i6 i7 k3 i8 i9 i10 k4 i11 i12 i13 h0 n0 v U'.heap L ∧ FrameEnd U o U' L (rM_ 1 0 0 17).cells (rM_ 1 0 0 17).slots) := by
  refine MetFree.of_bodySF (plainFor_of_name pn_4) hisR ?_
  intro p e s m args below meth c s₁ Bd hml0 hP hK
  obtain ⟨rfl, hZ, hh⟩ := hP
  have hx := Bd.exec
  have hby := Bd.bytes
  have hml : c.maxLocals = 7 := hml0
  have hown : s.vm.findClass c0_ = some m.cls := findClass_of_methodNamed Bd.named
  have hnm := (name_of_methodNamed Bd.named Bd.method).1
  have X0 : Stand p l e (rM_ 1 0 0 17) s m #[(.ref o0), (.int i0), (.long j0), (.long j1)] below meth c s₁ [] 0 0 := Stand.of_body Bd
  have e0 : s₁.heap = h0 := by rw [← hh, Bd.state]; rfl
  have N0 := Fr.nil n0
  have K0 : Keep h0 h0 [o6, o5, o4, o3, o2, o0] := Keep.refl h0 _
  change own_Go p e below (own_Post s (Q4_30 Z o0 i0 j0 j1 o2 o3 o4 o5 o6 i1 i2 i3 i4 i5 k0 j2 j3 j4 k1 j5 j6 j7 k2 i6 i7 k3 i8 i9 i10 k4 i11 i12 i13 h0 n0) (rM_ 1 0 0 17).cells (rM_ 1 0 0 17).slots) (s₁.setTop (entryFrame m #[(.ref o0), (.int i0), (.long j0), (.long j1)] 7))
  refine own_by (fun t k => castTop (ef_4 m o0 i0 j0 j1) k) ?_
  show own_Go p e below _ (s₁.setTop (mkF m 0 (lA3_ o0 i0 j0 j1) []))
  refine own_by (B := s₁.setTop (mkF m 8 (lA3_ o0 i0 j0 j1) [(.long j1), (.long j0), (.ref o0)])) (fun t k => ?_) ?_
  · refine XS.iloadN X0.here hx rfl (hb hby d4_0) rfl ?_
    refine XS.ifNo X0.here hx rfl (hb hby d4_1) rfl ((if0 _ _).trans (teq hp0).2) ?_
    show Steps p.tables e below (s₁.setTop (mkF m 4 (lA3_ o0 i0 j0 j1) [])) _
    refine XS.aloadN X0.here hx rfl (hb hby d4_4) rfl rfl ?_
    refine XS.lloadN X0.here hx rfl (hb hby d4_5) rfl ?_
    refine XS.lload X0.here hx rfl (hb hby d4_6) rfl ?_
    exact k
  refine own_cc (own_callP X0 hx hZ (y := y13_) hown (hW hw 42 rfl) (hW hw 43 rfl) (hW hw 3 rfl) (hW hw 45 rfl) (hW hw 44 rfl) (hW hw 2 rfl) dE_ (rm5_29 l Z a0 hw [] o0 j0 j1 o2 o3 o4 o5 o6 i1 i2 i3 i4 i5 k0 j2 j3 j4 k1 j5 j6 j7 k2 i6 i0 i7 k3 i8 i9 i10 k4 i11 i12 i13 h0 n0 Z0 E_o0 g_o0 F_prices_o0 F_sizes_o0 F_left_o0 F_right_o0 F_heights_o0 F_root_o0 F_best_o0 F_unused_o0 F_free_o0 F_count_o0 F_highestFirst_o0 g_o2 V_o2 g_o3 V_o3 g_o4 V_o4 g_o5 V_o5 g_o6 V_o6 hp1 ne_o3_o2 ne_o4_o2 ne_o5_o2 ne_o6_o2 ne_o4_o3 ne_o5_o3 ne_o6_o3 ne_o5_o4 ne_o6_o4 ne_o6_o5) e0 0 dE_ dE_ dE_ dE_ rfl (by rw [hml]; rfl) o0 E_o0 [(.long j0), (.long j1)] [] rfl (lenOf pd_4 rfl) rfl (by show 2 * 0 + _ ≤ _; exact Nat.le_of_eq rfl) (hb hby d4_8)) fun T2 L2 v2 X2 hQ2 => ?_
  obtain ⟨rfl, N2, K2, E_o0', F_prices_o0', F_sizes_o0', F_left_o0', F_right_o0', F_heights_o0', F_root_o0', F_best_o0', F_unused_o0', F_free_o0', F_count_o0', F_highestFirst_o0', V_o2', V_o3', V_o4', V_o5', V_o6'⟩ := hQ2
  replace N0 := Fr.app N0 N2
  replace E_o0 := E_o0.keep K2
  replace K0 := K0.trans K2 (allS (Or.inl (List.mem_of_getElem? (i := 5) rfl)) (allS (Or.inl (List.mem_of_getElem? (i := 4) rfl)) (allS (Or.inl (List.mem_of_getElem? (i := 3) rfl)) (allS (Or.inl (List.mem_of_getElem? (i := 2) rfl)) (allS (Or.inl (List.mem_of_getElem? (i := 1) rfl)) (allS (Or.inl (List.mem_of_getElem? (i := 0) rfl)) all0))))))
  replace Z0 := Nat.le_trans Z0 K2.1
  replace E_o0 := E_o0'
  have F_prices_o0 := F_prices_o0'
  have F_sizes_o0 := F_sizes_o0'
  have F_left_o0 := F_left_o0'
  have F_right_o0 := F_right_o0'
  have F_heights_o0 := F_heights_o0'
  have F_root_o0 := F_root_o0'
  have F_best_o0 := F_best_o0'
  have F_unused_o0 := F_unused_o0'
  have F_free_o0 := F_free_o0'
  have F_count_o0 := F_count_o0'
  have F_highestFirst_o0 := F_highestFirst_o0'
  have V_o2 := V_o2'
  have V_o3 := V_o3'
  have V_o4 := V_o4'
  have V_o5 := V_o5'
  have V_o6 := V_o6'
  show own_Go p e below _ (T2.setTop (mkF m 11 (lA3_ o0 i0 j0 j1) [(.int (2 : Int32))]))
  exact own_retI X2 Bd.notSynchronized hx Bd.returns (hb hby d4_11) ⟨rfl, N0, K0, V_o6, V_o5, V_o4, V_o3, V_o2, E_o0, F_prices_o0, F_sizes_o0, F_left_o0, F_right_o0, F_heights_o0, F_root_o0, F_best_o0, F_unused_o0, F_free_o0, F_count_o0, F_highestFirst_o0⟩ dE_ dE_

theorem d9_0 : dC26_ 0 (.aload_n 0, 1) := by decide +kernel
theorem d9_1 : dC26_ 1 (.getfield 25, 3) := by decide +kernel
theorem d9_4 : dC26_ 4 (.iload_n 1, 1) := by decide +kernel
theorem d9_5 : dC26_ 5 (.iconst 1, 1) := by decide +kernel
theorem d9_6 : dC26_ 6 (.aload_n 0, 1) := by decide +kernel
theorem d9_7 : dC26_ 7 (.getfield 25, 3) := by decide +kernel
theorem d9_10 : dC26_ 10 (.aload_n 0, 1) := by decide +kernel
theorem d9_11 : dC26_ 11 (.getfield 18, 3) := by decide +kernel
theorem d9_14 : dC26_ 14 (.iload_n 1, 1) := by decide +kernel
theorem d9_15 : dC26_ 15 (.iaload, 1) := by decide +kernel
theorem d9_16 : dC26_ 16 (.baload, 1) := by decide +kernel
theorem d9_17 : dC26_ 17 (.aload_n 0, 1) := by decide +kernel
theorem d9_18 : dC26_ 18 (.getfield 25, 3) := by decide +kernel
theorem d9_21 : dC26_ 21 (.aload_n 0, 1) := by decide +kernel
theorem d9_22 : dC26_ 22 (.getfield 22, 3) := by decide +kernel
theorem d9_25 : dC26_ 25 (.iload_n 1, 1) := by decide +kernel
theorem d9_26 : dC26_ 26 (.iaload, 1) := by decide +kernel
theorem d9_27 : dC26_ 27 (.baload, 1) := by decide +kernel
theorem d9_28 : dC26_ 28 (.invokestatic 104, 3) := by decide +kernel
theorem d9_31 : dC26_ 31 (.iadd, 1) := by decide +kernel
theorem d9_32 : dC26_ 32 (.i2b, 1) := by decide +kernel
theorem d9_33 : dC26_ 33 (.bastore, 1) := by decide +kernel
theorem d9_34 : dC26_ 34 (.return_, 1) := by decide +kernel
theorem pn_9 : plainName "com/example/tidebook/tidebook/book/PriceLevels" = true := by first | (simp [plainName, overriddenIn]; done) | decide +kernel
theorem ef_9 (m : MethodId) (x0 : Addr) (x1 : Int32) : entryFrame m #[(.ref x0), (.int x1)] 2 = mkF m 0 #[rv x0, iv x1] [] := by first | (simp [entryFrame, mkF, argsToLocals, Value.category]; done) | rfl
def Q9_31 (Z : State) (o0 o4 : Addr) (o5 o6 : Addr) (k2 : ClassId) (i6 i7 : Int32) (k3 : ClassId) (i8 i9 : Int32) (k4 : ClassId) (i10 i11 i12 : Int32) (h0 : Heap) (n0 : Nat) (v : Option Value) (h : Heap) (L : List Loc) : Prop := v = none ∧ Fr n0 L ∧ Keep h0 h [o6] ∧ Arv Z h o6 k4 .byte (8 : Int32) [(.int i10), (.int (nar .byte (((1 : Int32) + (fmaxI i12 i10)).toInt8.toInt32))), (.int i12)] oZ
set_option maxRecDepth 65536 in
set_option maxHeartbeats 40000000 in
theorem rm9_31 (l : Launch) (Z : State) (a0 : Array Value) (hw : oW_ a0 Z) (ws : List Jvm.Cond) (o0 o4 : Addr) (o5 o6 : Addr) (k2 : ClassId) (i6 i7 : Int32) (k3 : ClassId) (i8 i9 : Int32) (k4 : ClassId) (i10 i11 i12 : Int32) (h0 : Heap) (n0 : Nat) (Z0 : n0 ≤ h0.size) (F_left_o0 : Fld Z h0 o0 c0_ "left" "[I" (.ref o4)) (F_right_o0 : Fld Z h0 o0 c0_ "right" "[I" (.ref o5)) (F_heights_o0 : Fld Z h0 o0 c0_ "heights" "[B" (.ref o6)) (V_o4 : Arv Z h0 o4 k2 .int (8 : Int32) [(.int i6), (.int (2 : Int32)), (.int i7)] oZ) (V_o5 : Arv Z h0 o5 k3 .int (8 : Int32) [(.int i8), oZ, (.int i9)] oZ) (g_o6 : n0 ≤ o6) (V_o6 : Arv Z h0 o6 k4 .byte (8 : Int32) [(.int i10), (.int i11), (.int i12)] oZ) (ne_o0_o6 : o0 ≠ o6) (ne_o4_o6 : o4 ≠ o6) (ne_o5_o6 : o5 ≠ o6) :
    MetFree l y27_ (head1 (Jvm.Cond.code y27_ prog_3_method_13_code 2 none :: ws) (rM_ 1 0 0 16)) (fun a U => a = #[(.ref o0), (.int (1 : Int32))] ∧ Z.Warmed39 U.vm ∧ U.heap = h0) (fun _ _ _ _ _ => True) (fun _ U o U' => ∃ v L, o = .returned v ∧ Q9_31 Z o0 o4 o5 o6 k2 i6 i7 k3 i8 i9 k4 i10 i11 i12 h0 n0 v U'.heap L ∧ FrameEnd U o U' L (rM_ 1 0 0 16).cells (rM_ 1 0 0 16).slots) := by
  refine MetFree.of_bodySF (plainFor_of_name pn_9) hisR ?_
  intro p e s m args below meth c s₁ Bd hml0 hP hK
  obtain ⟨rfl, hZ, hh⟩ := hP
  have hx := Bd.exec
  have hby := Bd.bytes
  have hml : c.maxLocals = 2 := hml0
  have hown : s.vm.findClass c0_ = some m.cls := findClass_of_methodNamed Bd.named
  have hnm := (name_of_methodNamed Bd.named Bd.method).1
  have X0 : Stand p l e (rM_ 1 0 0 16) s m #[(.ref o0), (.int (1 : Int32))] below meth c s₁ [] 0 0 := Stand.of_body Bd
  have e0 : s₁.heap = h0 := by rw [← hh, Bd.state]; rfl
  have N0 := Fr.nil n0
  have K0 : Keep h0 h0 [o6] := Keep.refl h0 _
  change own_Go p e below (own_Post s (Q9_31 Z o0 o4 o5 o6 k2 i6 i7 k3 i8 i9 k4 i10 i11 i12 h0 n0) (rM_ 1 0 0 16).cells (rM_ 1 0 0 16).slots) (s₁.setTop (entryFrame m #[(.ref o0), (.int (1 : Int32))] 2))
  refine own_by (fun t k => castTop (ef_9 m o0 (1 : Int32)) k) ?_
  show own_Go p e below _ (s₁.setTop (mkF m 0 #[rv o0, iv (1 : Int32)] []))
  refine own_by (B := s₁.setTop (mkF m 1 #[rv o0, iv (1 : Int32)] [(.ref o0)])) (fun t k => ?_) ?_
  · refine XS.aloadN X0.here hx rfl (hb hby d9_0) rfl rfl ?_
    exact k
  refine own_c1 (getF X0 hx hZ hown (host := "") (Or.inl (hW hw 21 rfl)) Via.refl e0 F_heights_o0 rfl rfl (hb hby d9_1)) fun T1 X1 e1 => ?_
  show own_Go p e below _ (T1.setTop (mkF m 4 #[rv o0, iv (1 : Int32)] [(.ref o6)]))
  refine own_by (B := T1.setTop (mkF m 7 #[rv o0, iv (1 : Int32)] [(.ref o0), (.int (1 : Int32)), (.int (1 : Int32)), (.ref o6)])) (fun t k => ?_) ?_
  · refine XS.iloadN X1.here hx rfl (hb hby d9_4) rfl ?_
    refine XS.iconst X1.here hx rfl (hb hby d9_5) ?_
    refine XS.aloadN X1.here hx rfl (hb hby d9_6) rfl rfl ?_
    exact k
  refine own_c1 (getF X1 hx hZ hown (host := "") (Or.inl (hW hw 21 rfl)) Via.refl e1 F_heights_o0 rfl rfl (hb hby d9_7)) fun T2 X2 e2 => ?_
  show own_Go p e below _ (T2.setTop (mkF m 10 #[rv o0, iv (1 : Int32)] [(.ref o6), (.int (1 : Int32)), (.int (1 : Int32)), (.ref o6)]))
  refine own_by (B := T2.setTop (mkF m 11 #[rv o0, iv (1 : Int32)] [(.ref o0), (.ref o6), (.int (1 : Int32)), (.int (1 : Int32)), (.ref o6)])) (fun t k => ?_) ?_
  · refine XS.aloadN X2.here hx rfl (hb hby d9_10) rfl rfl ?_
    exact k
  refine own_c1 (getF X2 hx hZ hown (host := "") (Or.inl (hW hw 16 rfl)) Via.refl e2 F_left_o0 rfl rfl (hb hby d9_11)) fun T3 X3 e3 => ?_
  show own_Go p e below _ (T3.setTop (mkF m 14 #[rv o0, iv (1 : Int32)] [(.ref o4), (.ref o6), (.int (1 : Int32)), (.int (1 : Int32)), (.ref o6)]))
  refine own_by (B := T3.setTop (mkF m 18 #[rv o0, iv (1 : Int32)] [(.ref o0), (.int i12), (.int (1 : Int32)), (.int (1 : Int32)), (.ref o6)])) (fun t k => ?_) ?_
  · refine XS.iloadN X3.here hx rfl (hb hby d9_14) rfl ?_
    obtain ⟨cl4, Ar4, q4, S4, N4, H4, G4⟩ := id V_o4
    have hin4 : ¬ ((1 : Int32) < 0 ∨ cl4.slots.size ≤ ((1 : Int32)).toNatClampNeg) := inb_of S4 ⟨by decide, by decide⟩
    have hat4 : cl4.slots[((1 : Int32)).toNatClampNeg]? = some (.int (2 : Int32)) := H4.at hin4 rfl
    refine X3.iaload hx (j := (1 : Int32)) (v := (.int (2 : Int32))) (by rw [show T3.heap = h0 from e3]; exact Ar4.1) (State.isArrayOf_alike hZ.alike Ar4.2.1) Ar4.2.2 hin4 hat4 (g := (mkF m 15 #[rv o0, iv (1 : Int32)] [(.int (1 : Int32)), (.ref o4), (.ref o6), (.int (1 : Int32)), (.int (1 : Int32)), (.ref o6)])) rfl rfl (hb hby d9_15) _ ?_
    show Steps p.tables e below (T3.setTop (mkF m 16 #[rv o0, iv (1 : Int32)] [(.int (2 : Int32)), (.ref o6), (.int (1 : Int32)), (.int (1 : Int32)), (.ref o6)])) _
    obtain ⟨cl5, Ar5, q5, S5, N5, H5, G5⟩ := id V_o6
    have hin5 : ¬ ((2 : Int32) < 0 ∨ cl5.slots.size ≤ ((2 : Int32)).toNatClampNeg) := inb_of S5 ⟨by decide, by decide⟩
    have hat5 : cl5.slots[((2 : Int32)).toNatClampNeg]? = some (.int i12) := H5.at hin5 rfl
    refine X3.baloadBytes hx (j := (2 : Int32)) (v := (.int i12)) (by rw [show T3.heap = h0 from e3]; exact Ar5.1) (State.isArrayOf_alike hZ.alike Ar5.2.1) Ar5.2.2 hin5 hat5 (g := (mkF m 16 #[rv o0, iv (1 : Int32)] [(.int (2 : Int32)), (.ref o6), (.int (1 : Int32)), (.int (1 : Int32)), (.ref o6)])) rfl rfl (hb hby d9_16) _ ?_
    show Steps p.tables e below (T3.setTop (mkF m 17 #[rv o0, iv (1 : Int32)] [(.int i12), (.int (1 : Int32)), (.int (1 : Int32)), (.ref o6)])) _
    refine XS.aloadN X3.here hx rfl (hb hby d9_17) rfl rfl ?_
    exact k
  refine own_c1 (getF X3 hx hZ hown (host := "") (Or.inl (hW hw 21 rfl)) Via.refl e3 F_heights_o0 rfl rfl (hb hby d9_18)) fun T6 X6 e6 => ?_
  show own_Go p e below _ (T6.setTop (mkF m 21 #[rv o0, iv (1 : Int32)] [(.ref o6), (.int i12), (.int (1 : Int32)), (.int (1 : Int32)), (.ref o6)]))
  refine own_by (B := T6.setTop (mkF m 22 #[rv o0, iv (1 : Int32)] [(.ref o0), (.ref o6), (.int i12), (.int (1 : Int32)), (.int (1 : Int32)), (.ref o6)])) (fun t k => ?_) ?_
  · refine XS.aloadN X6.here hx rfl (hb hby d9_21) rfl rfl ?_
    exact k
  refine own_c1 (getF X6 hx hZ hown (host := "") (Or.inl (hW hw 18 rfl)) Via.refl e6 F_right_o0 rfl rfl (hb hby d9_22)) fun T7 X7 e7 => ?_
  show own_Go p e below _ (T7.setTop (mkF m 25 #[rv o0, iv (1 : Int32)] [(.ref o5), (.ref o6), (.int i12), (.int (1 : Int32)), (.int (1 : Int32)), (.ref o6)]))
  refine own_by (B := T7.setTop (mkF m 28 #[rv o0, iv (1 : Int32)] [(.int i10), (.int i12), (.int (1 : Int32)), (.int (1 : Int32)), (.ref o6)])) (fun t k => ?_) ?_
  · refine XS.iloadN X7.here hx rfl (hb hby d9_25) rfl ?_
    obtain ⟨cl8, Ar8, q8, S8, N8, H8, G8⟩ := id V_o5
    have hin8 : ¬ ((1 : Int32) < 0 ∨ cl8.slots.size ≤ ((1 : Int32)).toNatClampNeg) := inb_of S8 ⟨by decide, by decide⟩
    have hat8 : cl8.slots[((1 : Int32)).toNatClampNeg]? = some oZ := H8.at hin8 rfl
    refine X7.iaload hx (j := (1 : Int32)) (v := oZ) (by rw [show T7.heap = h0 from e7]; exact Ar8.1) (State.isArrayOf_alike hZ.alike Ar8.2.1) Ar8.2.2 hin8 hat8 (g := (mkF m 26 #[rv o0, iv (1 : Int32)] [(.int (1 : Int32)), (.ref o5), (.ref o6), (.int i12), (.int (1 : Int32)), (.int (1 : Int32)), (.ref o6)])) rfl rfl (hb hby d9_26) _ ?_
    show Steps p.tables e below (T7.setTop (mkF m 27 #[rv o0, iv (1 : Int32)] [oZ, (.ref o6), (.int i12), (.int (1 : Int32)), (.int (1 : Int32)), (.ref o6)])) _
    obtain ⟨cl9, Ar9, q9, S9, N9, H9, G9⟩ := id V_o6
    have hin9 : ¬ ((0 : Int32) < 0 ∨ cl9.slots.size ≤ ((0 : Int32)).toNatClampNeg) := inb_of S9 ⟨by decide, by decide⟩
    have hat9 : cl9.slots[((0 : Int32)).toNatClampNeg]? = some (.int i10) := H9.at hin9 rfl
    refine X7.baloadBytes hx (j := (0 : Int32)) (v := (.int i10)) (by rw [show T7.heap = h0 from e7]; exact Ar9.1) (State.isArrayOf_alike hZ.alike Ar9.2.1) Ar9.2.2 hin9 hat9 (g := (mkF m 27 #[rv o0, iv (1 : Int32)] [oZ, (.ref o6), (.int i12), (.int (1 : Int32)), (.int (1 : Int32)), (.ref o6)])) rfl rfl (hb hby d9_27) _ ?_
    show Steps p.tables e below (T7.setTop (mkF m 28 #[rv o0, iv (1 : Int32)] [(.int i10), (.int i12), (.int (1 : Int32)), (.int (1 : Int32)), (.ref o6)])) _
    exact k
  refine own_cc (own_callS X7 hx hZ (y := y1_) hown (hW hw 64 rfl) (hW hw 65 rfl) (hW hw 66 rfl) (hW hw 67 rfl) dE_ (rm10 l Z a0 hw [] i12 i10 h0 n0 Z0 ) e7 3 dE_ dE_ dE_ dE_ rfl (by rw [hml]; rfl) [(.int i12), (.int i10)] [(.int (1 : Int32)), (.int (1 : Int32)), (.ref o6)] rfl (lenOf pd_7 rfl) rfl (by show 2 * 0 + _ ≤ _; exact Nat.le_of_eq rfl) (hb hby d9_28)) fun T11 L11 v11 X11 hQ11 => ?_
  obtain ⟨rfl, N11, e11⟩ := hQ11
  replace N0 := Fr.app N0 N11
  show own_Go p e below _ (T11.setTop (mkF m 31 #[rv o0, iv (1 : Int32)] [(.int (fmaxI i12 i10)), (.int (1 : Int32)), (.int (1 : Int32)), (.ref o6)]))
  refine own_by (B := T11.setTop (mkF m 33 #[rv o0, iv (1 : Int32)] [(.int (((1 : Int32) + (fmaxI i12 i10)).toInt8.toInt32)), (.int (1 : Int32)), (.ref o6)])) (fun t k => ?_) ?_
  · refine XS.iadd X11.here hx rfl (hb hby d9_31) rfl ?_
    show Steps p.tables e below (T11.setTop (mkF m 32 #[rv o0, iv (1 : Int32)] [(.int ((1 : Int32) + (fmaxI i12 i10))), (.int (1 : Int32)), (.ref o6)])) _
    refine XS.i2b X11.here hx rfl (hb hby d9_32) rfl ?_
    show Steps p.tables e below (T11.setTop (mkF m 33 #[rv o0, iv (1 : Int32)] [(.int (((1 : Int32) + (fmaxI i12 i10)).toInt8.toInt32)), (.int (1 : Int32)), (.ref o6)])) _
    exact k
  obtain ⟨cl12, Ar12, q12, S12, N12, H12, G12⟩ := V_o6
  have hin12 : ¬ ((1 : Int32) < 0 ∨ cl12.slots.size ≤ ((1 : Int32)).toNatClampNeg) := inb_of S12 ⟨by decide, by decide⟩
  refine own_c2 (stB X11 hx hZ e11 Ar12 (j := (1 : Int32)) hin12 rfl rfl (hb hby d9_33)) fun T12 h12 X12 e12 W12 => ?_
  replace V_o6 : Arv Z h12 o6 k4 .byte (8 : Int32) [(.int i10), (.int (nar .byte (((1 : Int32) + (fmaxI i12 i10)).toInt8.toInt32))), (.int i12)] oZ := Arv.set Ar12 q12 S12 N12 H12 G12 (fits_nar_byte _) W12 1 rfl nB_
  replace F_left_o0 := F_left_o0.other W12 (Or.inl ne_o0_o6)
  replace F_right_o0 := F_right_o0.other W12 (Or.inl ne_o0_o6)
  replace F_heights_o0 := F_heights_o0.other W12 (Or.inl ne_o0_o6)
  replace V_o4 := V_o4.other W12 ne_o4_o6
  replace V_o5 := V_o5.other W12 ne_o5_o6
  replace K0 := K0.wr W12 (Or.inl (List.mem_of_getElem? (i := 0) rfl))
  replace Z0 := Nat.le_trans Z0 (Keep.of_wr W12).1
  replace N0 := Fr.snoc X12 N0 g_o6
  show own_Go p e below _ (T12.setTop (mkF m 34 #[rv o0, iv (1 : Int32)] []))
  exact own_retV X12 Bd.notSynchronized hx Bd.returns (hb hby d9_34) (by
      try rw [show T12.heap = h12 from e12]
      exact ⟨rfl, N0, K0, V_o6⟩) dE_ dE_

theorem d8_0 : dC27_ 0 (.aload_n 0, 1) := by decide +kernel
theorem d8_1 : dC27_ 1 (.getfield 25, 3) := by decide +kernel
theorem d8_4 : dC27_ 4 (.aload_n 0, 1) := by decide +kernel
theorem d8_5 : dC27_ 5 (.getfield 18, 3) := by decide +kernel
theorem d8_8 : dC27_ 8 (.iload_n 1, 1) := by decide +kernel
theorem d8_9 : dC27_ 9 (.iaload, 1) := by decide +kernel
theorem d8_10 : dC27_ 10 (.baload, 1) := by decide +kernel
theorem d8_11 : dC27_ 11 (.aload_n 0, 1) := by decide +kernel
theorem d8_12 : dC27_ 12 (.getfield 25, 3) := by decide +kernel
theorem d8_15 : dC27_ 15 (.aload_n 0, 1) := by decide +kernel
theorem d8_16 : dC27_ 16 (.getfield 22, 3) := by decide +kernel
theorem d8_19 : dC27_ 19 (.iload_n 1, 1) := by decide +kernel
theorem d8_20 : dC27_ 20 (.iaload, 1) := by decide +kernel
theorem d8_21 : dC27_ 21 (.baload, 1) := by decide +kernel
theorem d8_22 : dC27_ 22 (.isub, 1) := by decide +kernel
theorem d8_23 : dC27_ 23 (.istore_n 2, 1) := by decide +kernel
theorem d8_24 : dC27_ 24 (.iload_n 2, 1) := by decide +kernel
theorem d8_25 : dC27_ 25 (.iconst 1, 1) := by decide +kernel
theorem d8_26 : dC27_ 26 (.if_icmp .le 17, 3) := by decide +kernel
theorem d8_43 : dC27_ 43 (.iload_n 2, 1) := by decide +kernel
theorem d8_44 : dC27_ 44 (.iconst (-1), 1) := by decide +kernel
theorem d8_45 : dC27_ 45 (.if_icmp .ge 17, 3) := by decide +kernel
theorem d8_62 : dC27_ 62 (.aload_n 0, 1) := by decide +kernel
theorem d8_63 : dC27_ 63 (.iload_n 1, 1) := by decide +kernel
theorem d8_64 : dC27_ 64 (.invokevirtual 98, 3) := by decide +kernel
theorem d8_67 : dC27_ 67 (.iload_n 1, 1) := by decide +kernel
theorem d8_68 : dC27_ 68 (.ireturn, 1) := by decide +kernel
theorem pn_8 : plainName "com/example/tidebook/tidebook/book/PriceLevels" = true := by first | (simp [plainName, overriddenIn]; done) | decide +kernel
theorem ef_8 (m : MethodId) (x0 : Addr) (x1 : Int32) : entryFrame m #[(.ref x0), (.int x1)] 3 = mkF m 0 #[rv x0, iv x1, oU] [] := by first | (simp [entryFrame, mkF, argsToLocals, Value.category]; done) | rfl
def Q8_32 (Z : State) (o0 o4 : Addr) (o5 o6 : Addr) (k2 : ClassId) (i6 i7 : Int32) (k3 : ClassId) (i8 i9 : Int32) (k4 : ClassId) (i10 i11 i12 : Int32) (h0 : Heap) (n0 : Nat) (v : Option Value) (h : Heap) (L : List Loc) : Prop := v = some (.int (1 : Int32)) ∧ Fr n0 L ∧ Keep h0 h [o6] ∧ Arv Z h o6 k4 .byte (8 : Int32) [(.int i10), (.int (nar .byte (((1 : Int32) + (fmaxI i12 i10)).toInt8.toInt32))), (.int i12)] oZ
set_option maxRecDepth 65536 in
set_option maxHeartbeats 40000000 in
theorem rm8_32 (l : Launch) (Z : State) (a0 : Array Value) (hw : oW_ a0 Z) (ws : List Jvm.Cond) (o0 o4 : Addr) (o5 o6 : Addr) (k2 : ClassId) (i6 i7 : Int32) (k3 : ClassId) (i8 i9 : Int32) (k4 : ClassId) (i10 i11 i12 : Int32) (h0 : Heap) (n0 : Nat) (Z0 : n0 ≤ h0.size) (E_o0 : Exa Z h0 o0 c0_) (F_left_o0 : Fld Z h0 o0 c0_ "left" "[I" (.ref o4)) (F_right_o0 : Fld Z h0 o0 c0_ "right" "[I" (.ref o5)) (F_heights_o0 : Fld Z h0 o0 c0_ "heights" "[B" (.ref o6)) (V_o4 : Arv Z h0 o4 k2 .int (8 : Int32) [(.int i6), (.int (2 : Int32)), (.int i7)] oZ) (V_o5 : Arv Z h0 o5 k3 .int (8 : Int32) [(.int i8), oZ, (.int i9)] oZ) (g_o6 : n0 ≤ o6) (V_o6 : Arv Z h0 o6 k4 .byte (8 : Int32) [(.int i10), (.int i11), (.int i12)] oZ) (hp0 : ¬ ((1 : Int32) < (i12 - i10))) (hp1 : ¬ ((i12 - i10) < (-1 : Int32))) (ne_o4_o6 : o4 ≠ o6) (ne_o5_o6 : o5 ≠ o6) :
    MetFree l y28_ (head1 (Jvm.Cond.code y28_ prog_3_method_10_code 3 (some .int) :: ws) (rM_ 2 0 0 29)) (fun a U => a = #[(.ref o0), (.int (1 : Int32))] ∧ Z.Warmed39 U.vm ∧ U.heap = h0) (fun _ _ _ _ _ => True) (fun _ U o U' => ∃ v L, o = .returned v ∧ Q8_32 Z o0 o4 o5 o6 k2 i6 i7 k3 i8 i9 k4 i10 i11 i12 h0 n0 v U'.heap L ∧ FrameEnd U o U' L (rM_ 2 0 0 29).cells (rM_ 2 0 0 29).slots) := by
  refine MetFree.of_bodySF (plainFor_of_name pn_8) hisR ?_
  intro p e s m args below meth c s₁ Bd hml0 hP hK
  obtain ⟨rfl, hZ, hh⟩ := hP
  have hx := Bd.exec
  have hby := Bd.bytes
  have hml : c.maxLocals = 3 := hml0
  have hown : s.vm.findClass c0_ = some m.cls := findClass_of_methodNamed Bd.named
  have hnm := (name_of_methodNamed Bd.named Bd.method).1
  have X0 : Stand p l e (rM_ 2 0 0 29) s m #[(.ref o0), (.int (1 : Int32))] below meth c s₁ [] 0 0 := Stand.of_body Bd
  have e0 : s₁.heap = h0 := by rw [← hh, Bd.state]; rfl
  have N0 := Fr.nil n0
  have K0 : Keep h0 h0 [o6] := Keep.refl h0 _
  change own_Go p e below (own_Post s (Q8_32 Z o0 o4 o5 o6 k2 i6 i7 k3 i8 i9 k4 i10 i11 i12 h0 n0) (rM_ 2 0 0 29).cells (rM_ 2 0 0 29).slots) (s₁.setTop (entryFrame m #[(.ref o0), (.int (1 : Int32))] 3))
  refine own_by (fun t k => castTop (ef_8 m o0 (1 : Int32)) k) ?_
  show own_Go p e below _ (s₁.setTop (mkF m 0 #[rv o0, iv (1 : Int32), oU] []))
  refine own_by (B := s₁.setTop (mkF m 1 #[rv o0, iv (1 : Int32), oU] [(.ref o0)])) (fun t k => ?_) ?_
  · refine XS.aloadN X0.here hx rfl (hb hby d8_0) rfl rfl ?_
    exact k
  refine own_c1 (getF X0 hx hZ hown (host := "") (Or.inl (hW hw 21 rfl)) Via.refl e0 F_heights_o0 rfl rfl (hb hby d8_1)) fun T1 X1 e1 => ?_
  show own_Go p e below _ (T1.setTop (mkF m 4 #[rv o0, iv (1 : Int32), oU] [(.ref o6)]))
  refine own_by (B := T1.setTop (mkF m 5 #[rv o0, iv (1 : Int32), oU] [(.ref o0), (.ref o6)])) (fun t k => ?_) ?_
  · refine XS.aloadN X1.here hx rfl (hb hby d8_4) rfl rfl ?_
    exact k
  refine own_c1 (getF X1 hx hZ hown (host := "") (Or.inl (hW hw 16 rfl)) Via.refl e1 F_left_o0 rfl rfl (hb hby d8_5)) fun T2 X2 e2 => ?_
  show own_Go p e below _ (T2.setTop (mkF m 8 #[rv o0, iv (1 : Int32), oU] [(.ref o4), (.ref o6)]))
  refine own_by (B := T2.setTop (mkF m 12 #[rv o0, iv (1 : Int32), oU] [(.ref o0), (.int i12)])) (fun t k => ?_) ?_
  · refine XS.iloadN X2.here hx rfl (hb hby d8_8) rfl ?_
    obtain ⟨cl3, Ar3, q3, S3, N3, H3, G3⟩ := id V_o4
    have hin3 : ¬ ((1 : Int32) < 0 ∨ cl3.slots.size ≤ ((1 : Int32)).toNatClampNeg) := inb_of S3 ⟨by decide, by decide⟩
    have hat3 : cl3.slots[((1 : Int32)).toNatClampNeg]? = some (.int (2 : Int32)) := H3.at hin3 rfl
    refine X2.iaload hx (j := (1 : Int32)) (v := (.int (2 : Int32))) (by rw [show T2.heap = h0 from e2]; exact Ar3.1) (State.isArrayOf_alike hZ.alike Ar3.2.1) Ar3.2.2 hin3 hat3 (g := (mkF m 9 #[rv o0, iv (1 : Int32), oU] [(.int (1 : Int32)), (.ref o4), (.ref o6)])) rfl rfl (hb hby d8_9) _ ?_
    show Steps p.tables e below (T2.setTop (mkF m 10 #[rv o0, iv (1 : Int32), oU] [(.int (2 : Int32)), (.ref o6)])) _
    obtain ⟨cl4, Ar4, q4, S4, N4, H4, G4⟩ := id V_o6
    have hin4 : ¬ ((2 : Int32) < 0 ∨ cl4.slots.size ≤ ((2 : Int32)).toNatClampNeg) := inb_of S4 ⟨by decide, by decide⟩
    have hat4 : cl4.slots[((2 : Int32)).toNatClampNeg]? = some (.int i12) := H4.at hin4 rfl
    refine X2.baloadBytes hx (j := (2 : Int32)) (v := (.int i12)) (by rw [show T2.heap = h0 from e2]; exact Ar4.1) (State.isArrayOf_alike hZ.alike Ar4.2.1) Ar4.2.2 hin4 hat4 (g := (mkF m 10 #[rv o0, iv (1 : Int32), oU] [(.int (2 : Int32)), (.ref o6)])) rfl rfl (hb hby d8_10) _ ?_
    show Steps p.tables e below (T2.setTop (mkF m 11 #[rv o0, iv (1 : Int32), oU] [(.int i12)])) _
    refine XS.aloadN X2.here hx rfl (hb hby d8_11) rfl rfl ?_
    exact k
  refine own_c1 (getF X2 hx hZ hown (host := "") (Or.inl (hW hw 21 rfl)) Via.refl e2 F_heights_o0 rfl rfl (hb hby d8_12)) fun T5 X5 e5 => ?_
  show own_Go p e below _ (T5.setTop (mkF m 15 #[rv o0, iv (1 : Int32), oU] [(.ref o6), (.int i12)]))
  refine own_by (B := T5.setTop (mkF m 16 #[rv o0, iv (1 : Int32), oU] [(.ref o0), (.ref o6), (.int i12)])) (fun t k => ?_) ?_
  · refine XS.aloadN X5.here hx rfl (hb hby d8_15) rfl rfl ?_
    exact k
  refine own_c1 (getF X5 hx hZ hown (host := "") (Or.inl (hW hw 18 rfl)) Via.refl e5 F_right_o0 rfl rfl (hb hby d8_16)) fun T6 X6 e6 => ?_
  show own_Go p e below _ (T6.setTop (mkF m 19 #[rv o0, iv (1 : Int32), oU] [(.ref o5), (.ref o6), (.int i12)]))
  refine own_by (B := T6.setTop (mkF m 64 #[rv o0, iv (1 : Int32), iv (i12 - i10)] [(.int (1 : Int32)), (.ref o0)])) (fun t k => ?_) ?_
  · refine XS.iloadN X6.here hx rfl (hb hby d8_19) rfl ?_
    obtain ⟨cl7, Ar7, q7, S7, N7, H7, G7⟩ := id V_o5
    have hin7 : ¬ ((1 : Int32) < 0 ∨ cl7.slots.size ≤ ((1 : Int32)).toNatClampNeg) := inb_of S7 ⟨by decide, by decide⟩
    have hat7 : cl7.slots[((1 : Int32)).toNatClampNeg]? = some oZ := H7.at hin7 rfl
    refine X6.iaload hx (j := (1 : Int32)) (v := oZ) (by rw [show T6.heap = h0 from e6]; exact Ar7.1) (State.isArrayOf_alike hZ.alike Ar7.2.1) Ar7.2.2 hin7 hat7 (g := (mkF m 20 #[rv o0, iv (1 : Int32), oU] [(.int (1 : Int32)), (.ref o5), (.ref o6), (.int i12)])) rfl rfl (hb hby d8_20) _ ?_
    show Steps p.tables e below (T6.setTop (mkF m 21 #[rv o0, iv (1 : Int32), oU] [oZ, (.ref o6), (.int i12)])) _
    obtain ⟨cl8, Ar8, q8, S8, N8, H8, G8⟩ := id V_o6
    have hin8 : ¬ ((0 : Int32) < 0 ∨ cl8.slots.size ≤ ((0 : Int32)).toNatClampNeg) := inb_of S8 ⟨by decide, by decide⟩
    have hat8 : cl8.slots[((0 : Int32)).toNatClampNeg]? = some (.int i10) := H8.at hin8 rfl
    refine X6.baloadBytes hx (j := (0 : Int32)) (v := (.int i10)) (by rw [show T6.heap = h0 from e6]; exact Ar8.1) (State.isArrayOf_alike hZ.alike Ar8.2.1) Ar8.2.2 hin8 hat8 (g := (mkF m 21 #[rv o0, iv (1 : Int32), oU] [oZ, (.ref o6), (.int i12)])) rfl rfl (hb hby d8_21) _ ?_
    show Steps p.tables e below (T6.setTop (mkF m 22 #[rv o0, iv (1 : Int32), oU] [(.int i10), (.int i12)])) _
    refine XS.isub X6.here hx rfl (hb hby d8_22) rfl ?_
    show Steps p.tables e below (T6.setTop (mkF m 23 #[rv o0, iv (1 : Int32), oU] [(.int (i12 - i10))])) _
    refine XS.istoreN X6.here hx rfl (hb hby d8_23) rfl (l' := #[rv o0, iv (1 : Int32), iv (i12 - i10)]) rfl ?_
    show Steps p.tables e below (T6.setTop (mkF m 24 #[rv o0, iv (1 : Int32), iv (i12 - i10)] [])) _
    refine XS.iloadN X6.here hx rfl (hb hby d8_24) rfl ?_
    refine XS.iconst X6.here hx rfl (hb hby d8_25) ?_
    refine XS.icmpYes X6.here hx rfl (pc0 := 26) (pc' := 43) rfl (hb hby d8_26) rfl (flt hp0).2.2.2 dE_ dE_ ?_
    show Steps p.tables e below (T6.setTop (mkF m 43 #[rv o0, iv (1 : Int32), iv (i12 - i10)] [])) _
    refine XS.iloadN X6.here hx rfl (hb hby d8_43) rfl ?_
    refine XS.iconst X6.here hx rfl (hb hby d8_44) ?_
    refine XS.icmpYes X6.here hx rfl (pc0 := 45) (pc' := 62) rfl (hb hby d8_45) rfl (flt hp1).2.1 dE_ dE_ ?_
    show Steps p.tables e below (T6.setTop (mkF m 62 #[rv o0, iv (1 : Int32), iv (i12 - i10)] [])) _
    refine XS.aloadN X6.here hx rfl (hb hby d8_62) rfl rfl ?_
    refine XS.iloadN X6.here hx rfl (hb hby d8_63) rfl ?_
    exact k
  refine own_cc (own_callP X6 hx hZ (y := y27_) hown (hW hw 60 rfl) (hW hw 61 rfl) (hW hw 3 rfl) (hW hw 63 rfl) (hW hw 62 rfl) (hW hw 2 rfl) dE_ (rm9_31 l Z a0 hw [] o0 o4 o5 o6 k2 i6 i7 k3 i8 i9 k4 i10 i11 i12 h0 n0 Z0 F_left_o0 F_right_o0 F_heights_o0 V_o4 V_o5 g_o6 V_o6 (own_nev E_o0 (hW hw 2 rfl) V_o6) ne_o4_o6 ne_o5_o6) e6 0 dE_ dE_ dE_ dE_ rfl (by rw [hml]; rfl) o0 E_o0 [(.int (1 : Int32))] [] rfl (lenOf pd_6 rfl) rfl (by show 2 * 0 + _ ≤ _; exact Nat.le_of_eq rfl) (hb hby d8_64)) fun T10 L10 v10 X10 hQ10 => ?_
  obtain ⟨rfl, N10, K10, V_o6'⟩ := hQ10
  replace N0 := Fr.app N0 N10
  have nx1 : o0 ≠ o6 := (own_nev E_o0 (hW hw 2 rfl) V_o6)
  replace E_o0 := E_o0.keep K10
  replace F_left_o0 := F_left_o0.keep K10 (ninS nx1 nin0)
  replace F_right_o0 := F_right_o0.keep K10 (ninS nx1 nin0)
  replace F_heights_o0 := F_heights_o0.keep K10 (ninS nx1 nin0)
  replace V_o4 := V_o4.keep K10 (ninS ne_o4_o6 nin0)
  replace V_o5 := V_o5.keep K10 (ninS ne_o5_o6 nin0)
  replace K0 := K0.trans K10 (allS (Or.inl (List.mem_of_getElem? (i := 0) rfl)) all0)
  replace Z0 := Nat.le_trans Z0 K10.1
  have V_o6 := V_o6'
  show own_Go p e below _ (T10.setTop (mkF m 67 #[rv o0, iv (1 : Int32), iv (i12 - i10)] []))
  refine own_by (B := T10.setTop (mkF m 68 #[rv o0, iv (1 : Int32), iv (i12 - i10)] [(.int (1 : Int32))])) (fun t k => ?_) ?_
  · refine XS.iloadN X10.here hx rfl (hb hby d8_67) rfl ?_
    exact k
  exact own_retI X10 Bd.notSynchronized hx Bd.returns (hb hby d8_68) ⟨rfl, N0, K0, V_o6⟩ dE_ dE_

theorem d4_40 : dC14_ 40 (.iload 6, 2) := by decide +kernel
theorem d4_42 : dC14_ 42 (.ifCond .ge 25, 3) := by decide +kernel
theorem d4_45 : dC14_ 45 (.aload_n 0, 1) := by decide +kernel
theorem d4_46 : dC14_ 46 (.getfield 18, 3) := by decide +kernel
theorem d4_49 : dC14_ 49 (.iload_n 1, 1) := by decide +kernel
theorem d4_50 : dC14_ 50 (.aload_n 0, 1) := by decide +kernel
theorem d4_51 : dC14_ 51 (.aload_n 0, 1) := by decide +kernel
theorem d4_52 : dC14_ 52 (.getfield 18, 3) := by decide +kernel
theorem d4_55 : dC14_ 55 (.iload_n 1, 1) := by decide +kernel
theorem d4_56 : dC14_ 56 (.iaload, 1) := by decide +kernel
theorem d4_57 : dC14_ 57 (.lload_n 2, 1) := by decide +kernel
theorem d4_58 : dC14_ 58 (.lload 4, 2) := by decide +kernel
theorem d4_60 : dC14_ 60 (.invokevirtual 53, 3) := by decide +kernel
theorem d4_63 : dC14_ 63 (.iastore, 1) := by decide +kernel
theorem d4_64 : dC14_ 64 (.goto 22, 3) := by decide +kernel
theorem d4_86 : dC14_ 86 (.aload_n 0, 1) := by decide +kernel
theorem d4_87 : dC14_ 87 (.iload_n 1, 1) := by decide +kernel
theorem d4_88 : dC14_ 88 (.invokevirtual 87, 3) := by decide +kernel
theorem d4_91 : dC14_ 91 (.ireturn, 1) := by decide +kernel
theorem pd_5 : parseMethodDescriptor "(I)I" = some ⟨[.int], some .int⟩ := by decide +kernel
def Q4_33 (Z : State) (o0 : Addr) (j0 j1 : Int64) (o2 o3 : Addr) (o4 o5 o6 : Addr) (i0 i1 : Int32) (i2 i3 i4 : Int32) (k0 : ClassId) (j2 j3 j4 : Int64) (k1 : ClassId) (j5 j6 j7 : Int64) (k2 : ClassId) (i5 i6 i7 : Int32) (k3 : ClassId) (i8 i9 : Int32) (k4 : ClassId) (i10 i11 i12 : Int32) (h0 : Heap) (n0 : Nat) (v : Option Value) (h : Heap) (L : List Loc) : Prop := v = some (.int (1 : Int32)) ∧ Fr n0 L ∧ Keep h0 h [o0, o2, o3, o4, o5, o6] ∧ Exa Z h o0 c0_ ∧ Fld Z h o0 c0_ "prices" "[J" (.ref o2) ∧ Fld Z h o0 c0_ "sizes" "[J" (.ref o3) ∧ Fld Z h o0 c0_ "left" "[I" (.ref o4) ∧ Fld Z h o0 c0_ "right" "[I" (.ref o5) ∧ Fld Z h o0 c0_ "heights" "[B" (.ref o6) ∧ Fld Z h o0 c0_ "root" "I" (.int i0) ∧ Fld Z h o0 c0_ "best" "I" (.int i1) ∧ Fld Z h o0 c0_ "unused" "I" (.int (3 : Int32)) ∧ Fld Z h o0 c0_ "free" "I" (.int i2) ∧ Fld Z h o0 c0_ "count" "I" (.int (i3 + (1 : Int32))) ∧ Fld Z h o0 c0_ "highestFirst" "Z" (.int i4) ∧ Arv Z h o2 k0 .long (8 : Int32) [(.long j2), (.long j3), (.long j0)] oY ∧ Arv Z h o3 k1 .long (8 : Int32) [(.long j5), (.long j6), (.long j1)] oY ∧ Arv Z h o4 k2 .int (8 : Int32) [(.int i5), (.int (2 : Int32)), oZ] oZ ∧ Arv Z h o5 k3 .int (8 : Int32) [(.int i8), oZ, oZ] oZ ∧ Arv Z h o6 k4 .byte (8 : Int32) [(.int i10), (.int (nar .byte (((1 : Int32) + (fmaxI (1 : Int32) i10)).toInt8.toInt32))), (.int (1 : Int32))] oZ
set_option maxRecDepth 65536 in
set_option maxHeartbeats 40000000 in
theorem rm4_33 (l : Launch) (Z : State) (a0 : Array Value) (hw : oW_ a0 Z) (ws : List Jvm.Cond) (o0 : Addr) (j0 j1 : Int64) (o2 o3 : Addr) (o4 o5 o6 : Addr) (i0 i1 : Int32) (i2 i3 i4 : Int32) (k0 : ClassId) (j2 j3 j4 : Int64) (k1 : ClassId) (j5 j6 j7 : Int64) (k2 : ClassId) (i5 i6 i7 : Int32) (k3 : ClassId) (i8 i9 : Int32) (k4 : ClassId) (i10 i11 i12 : Int32) (h0 : Heap) (n0 : Nat) (Z0 : n0 ≤ h0.size) (E_o0 : Exa Z h0 o0 c0_) (g_o0 : n0 ≤ o0) (F_prices_o0 : Fld Z h0 o0 c0_ "prices" "[J" (.ref o2)) (F_sizes_o0 : Fld Z h0 o0 c0_ "sizes" "[J" (.ref o3)) (F_left_o0 : Fld Z h0 o0 c0_ "left" "[I" (.ref o4)) (F_right_o0 : Fld Z h0 o0 c0_ "right" "[I" (.ref o5)) (F_heights_o0 : Fld Z h0 o0 c0_ "heights" "[B" (.ref o6)) (F_root_o0 : Fld Z h0 o0 c0_ "root" "I" (.int i0)) (F_best_o0 : Fld Z h0 o0 c0_ "best" "I" (.int i1)) (F_unused_o0 : Fld Z h0 o0 c0_ "unused" "I" (.int (2 : Int32))) (F_free_o0 : Fld Z h0 o0 c0_ "free" "I" (.int i2)) (F_count_o0 : Fld Z h0 o0 c0_ "count" "I" (.int i3)) (F_highestFirst_o0 : Fld Z h0 o0 c0_ "highestFirst" "Z" (.int i4)) (g_o2 : n0 ≤ o2) (V_o2 : Arv Z h0 o2 k0 .long (8 : Int32) [(.long j2), (.long j3), (.long j4)] oY) (g_o3 : n0 ≤ o3) (V_o3 : Arv Z h0 o3 k1 .long (8 : Int32) [(.long j5), (.long j6), (.long j7)] oY) (g_o4 : n0 ≤ o4) (V_o4 : Arv Z h0 o4 k2 .int (8 : Int32) [(.int i5), (.int i6), (.int i7)] oZ) (g_o5 : n0 ≤ o5) (V_o5 : Arv Z h0 o5 k3 .int (8 : Int32) [(.int i8), oZ, (.int i9)] oZ) (g_o6 : n0 ≤ o6) (V_o6 : Arv Z h0 o6 k4 .byte (8 : Int32) [(.int i10), (.int i11), (.int i12)] oZ) (hp0 : ¬ ((fcp j0 j3 i4) = (0 : Int32))) (hp1 : (fcp j0 j3 i4) < (0 : Int32)) (hp2 : i6 = (0 : Int32)) (hp3 : i2 = (0 : Int32)) (ne_o3_o2 : o3 ≠ o2) (ne_o4_o2 : o4 ≠ o2) (ne_o5_o2 : o5 ≠ o2) (ne_o6_o2 : o6 ≠ o2) (ne_o4_o3 : o4 ≠ o3) (ne_o5_o3 : o5 ≠ o3) (ne_o6_o3 : o6 ≠ o3) (ne_o5_o4 : o5 ≠ o4) (ne_o6_o4 : o6 ≠ o4) (ne_o6_o5 : o6 ≠ o5) (hp4 : ¬ ((1 : Int32) < ((1 : Int32) - i10))) (hp5 : ¬ (((1 : Int32) - i10) < (-1 : Int32))) :
    MetFree l y14_ (head1 (Jvm.Cond.code y14_ prog_3_method_8_code 7 (some .int) :: ws) (rM_ 3 0 0 43)) (fun a U => a = #[(.ref o0), (.int (1 : Int32)), (.long j0), (.long j1)] ∧ Z.Warmed39 U.vm ∧ U.heap = h0) (fun _ _ _ _ _ => True) (fun _ U o U' => ∃ v L, o = .returned v ∧ Q4_33 Z o0 j0 j1 o2 o3 o4 o5 o6 i0 i1 i2 i3 i4 k0 j2 j3 j4 k1 j5 j6 j7 k2 i5 i6 i7 k3 i8 i9 k4 i10 i11 i12 h0 n0 v U'.heap L ∧ FrameEnd U o U' L (rM_ 3 0 0 43).cells (rM_ 3 0 0 43).slots) := by
  refine MetFree.of_bodySF (plainFor_of_name pn_4) hisR ?_
  intro p e s m args below meth c s₁ Bd hml0 hP hK
  obtain ⟨rfl, hZ, hh⟩ := hP
  have hx := Bd.exec
  have hby := Bd.bytes
  have hml : c.maxLocals = 7 := hml0
  have hown : s.vm.findClass c0_ = some m.cls := findClass_of_methodNamed Bd.named
  have hnm := (name_of_methodNamed Bd.named Bd.method).1
  have X0 : Stand p l e (rM_ 3 0 0 43) s m #[(.ref o0), (.int (1 : Int32)), (.long j0), (.long j1)] below meth c s₁ [] 0 0 := Stand.of_body Bd
  have e0 : s₁.heap = h0 := by rw [← hh, Bd.state]; rfl
  have N0 := Fr.nil n0
  have K0 : Keep h0 h0 [o0, o2, o3, o4, o5, o6] := Keep.refl h0 _
  change own_Go p e below (own_Post s (Q4_33 Z o0 j0 j1 o2 o3 o4 o5 o6 i0 i1 i2 i3 i4 k0 j2 j3 j4 k1 j5 j6 j7 k2 i5 i6 i7 k3 i8 i9 k4 i10 i11 i12 h0 n0) (rM_ 3 0 0 43).cells (rM_ 3 0 0 43).slots) (s₁.setTop (entryFrame m #[(.ref o0), (.int (1 : Int32)), (.long j0), (.long j1)] 7))
  refine own_by (fun t k => castTop (ef_4 m o0 (1 : Int32) j0 j1) k) ?_
  show own_Go p e below _ (s₁.setTop (mkF m 0 (lA3_ o0 (1 : Int32) j0 j1) []))
  refine own_by (B := s₁.setTop (mkF m 15 (lA3_ o0 (1 : Int32) j0 j1) [(.ref o0), (.long j0), (.ref o0)])) (fun t k => ?_) ?_
  · refine XS.iloadN X0.here hx rfl (hb hby d4_0) rfl ?_
    refine XS.ifYes X0.here hx rfl (pc0 := 1) (pc' := 12) rfl (hb hby d4_1) rfl ((if0 _ _).trans (feq (by decide : ¬ ((1 : Int32) = (0 : Int32)))).2) dE_ dE_ ?_
    show Steps p.tables e below (s₁.setTop (mkF m 12 (lA3_ o0 (1 : Int32) j0 j1) [])) _
    refine XS.aloadN X0.here hx rfl (hb hby d4_12) rfl rfl ?_
    refine XS.lloadN X0.here hx rfl (hb hby d4_13) rfl ?_
    refine XS.aloadN X0.here hx rfl (hb hby d4_14) rfl rfl ?_
    exact k
  refine own_c1 (getF X0 hx hZ hown (host := "") (Or.inl (hW hw 11 rfl)) Via.refl e0 F_prices_o0 rfl rfl (hb hby d4_15)) fun T1 X1 e1 => ?_
  show own_Go p e below _ (T1.setTop (mkF m 18 (lA3_ o0 (1 : Int32) j0 j1) [(.ref o2), (.long j0), (.ref o0)]))
  refine own_by (B := T1.setTop (mkF m 20 (lA3_ o0 (1 : Int32) j0 j1) [(.long j3), (.long j0), (.ref o0)])) (fun t k => ?_) ?_
  · refine XS.iloadN X1.here hx rfl (hb hby d4_18) rfl ?_
    obtain ⟨cl2, Ar2, q2, S2, N2, H2, G2⟩ := id V_o2
    have hin2 : ¬ ((1 : Int32) < 0 ∨ cl2.slots.size ≤ ((1 : Int32)).toNatClampNeg) := inb_of S2 ⟨by decide, by decide⟩
    have hat2 : cl2.slots[((1 : Int32)).toNatClampNeg]? = some (.long j3) := H2.at hin2 rfl
    refine X1.laload hx (j := (1 : Int32)) (v := (.long j3)) (by rw [show T1.heap = h0 from e1]; exact Ar2.1) (State.isArrayOf_alike hZ.alike Ar2.2.1) Ar2.2.2 hin2 hat2 (g := (mkF m 19 (lA3_ o0 (1 : Int32) j0 j1) [(.int (1 : Int32)), (.ref o2), (.long j0), (.ref o0)])) rfl rfl (hb hby d4_19) _ ?_
    show Steps p.tables e below (T1.setTop (mkF m 20 (lA3_ o0 (1 : Int32) j0 j1) [(.long j3), (.long j0), (.ref o0)])) _
    exact k
  refine own_cc (own_callP X1 hx hZ (y := y4_) hown (hW hw 48 rfl) (hW hw 49 rfl) (hW hw 3 rfl) (hW hw 51 rfl) (hW hw 50 rfl) (hW hw 2 rfl) dE_ (rm6 l Z a0 hw [] o0 j0 j3 i4 h0 n0 Z0 F_highestFirst_o0) e1 0 dE_ dE_ dE_ dE_ rfl (by rw [hml]; rfl) o0 E_o0 [(.long j0), (.long j3)] [] rfl (lenOf pd_4 rfl) rfl (by show 2 * 0 + _ ≤ _; exact Nat.le_of_eq rfl) (hb hby d4_20)) fun T4 L4 v4 X4 hQ4 => ?_
  obtain ⟨rfl, N4, e4⟩ := hQ4
  replace N0 := Fr.app N0 N4
  show own_Go p e below _ (T4.setTop (mkF m 23 (lA3_ o0 (1 : Int32) j0 j1) [(.int (fcp j0 j3 i4))]))
  refine own_by (B := T4.setTop (mkF m 46 (lA4_ o0 (1 : Int32) j0 j1 (fcp j0 j3 i4)) [(.ref o0)])) (fun t k => ?_) ?_
  · refine XS.istore X4.here hx rfl (hb hby d4_23) rfl (l' := (lA4_ o0 (1 : Int32) j0 j1 (fcp j0 j3 i4))) rfl ?_
    show Steps p.tables e below (T4.setTop (mkF m 25 (lA4_ o0 (1 : Int32) j0 j1 (fcp j0 j3 i4)) [])) _
    refine XS.iload X4.here hx rfl (hb hby d4_25) rfl ?_
    refine XS.ifYes X4.here hx rfl (pc0 := 27) (pc' := 40) rfl (hb hby d4_27) rfl ((if0 _ _).trans (feq hp0).2) dE_ dE_ ?_
    show Steps p.tables e below (T4.setTop (mkF m 40 (lA4_ o0 (1 : Int32) j0 j1 (fcp j0 j3 i4)) [])) _
    refine XS.iload X4.here hx rfl (hb hby d4_40) rfl ?_
    refine XS.ifNo X4.here hx rfl (hb hby d4_42) rfl ((if0 _ _).trans (tlt hp1).2.1) ?_
    show Steps p.tables e below (T4.setTop (mkF m 45 (lA4_ o0 (1 : Int32) j0 j1 (fcp j0 j3 i4)) [])) _
    refine XS.aloadN X4.here hx rfl (hb hby d4_45) rfl rfl ?_
    exact k
  refine own_c1 (getF X4 hx hZ hown (host := "") (Or.inl (hW hw 16 rfl)) Via.refl e4 F_left_o0 rfl rfl (hb hby d4_46)) fun T5 X5 e5 => ?_
  show own_Go p e below _ (T5.setTop (mkF m 49 (lA4_ o0 (1 : Int32) j0 j1 (fcp j0 j3 i4)) [(.ref o4)]))
  refine own_by (B := T5.setTop (mkF m 52 (lA4_ o0 (1 : Int32) j0 j1 (fcp j0 j3 i4)) [(.ref o0), (.ref o0), (.int (1 : Int32)), (.ref o4)])) (fun t k => ?_) ?_
  · refine XS.iloadN X5.here hx rfl (hb hby d4_49) rfl ?_
    refine XS.aloadN X5.here hx rfl (hb hby d4_50) rfl rfl ?_
    refine XS.aloadN X5.here hx rfl (hb hby d4_51) rfl rfl ?_
    exact k
  refine own_c1 (getF X5 hx hZ hown (host := "") (Or.inl (hW hw 16 rfl)) Via.refl e5 F_left_o0 rfl rfl (hb hby d4_52)) fun T6 X6 e6 => ?_
  show own_Go p e below _ (T6.setTop (mkF m 55 (lA4_ o0 (1 : Int32) j0 j1 (fcp j0 j3 i4)) [(.ref o4), (.ref o0), (.int (1 : Int32)), (.ref o4)]))
  refine own_by (B := T6.setTop (mkF m 60 (lA4_ o0 (1 : Int32) j0 j1 (fcp j0 j3 i4)) [(.long j1), (.long j0), (.int i6), (.ref o0), (.int (1 : Int32)), (.ref o4)])) (fun t k => ?_) ?_
  · refine XS.iloadN X6.here hx rfl (hb hby d4_55) rfl ?_
    obtain ⟨cl7, Ar7, q7, S7, N7, H7, G7⟩ := id V_o4
    have hin7 : ¬ ((1 : Int32) < 0 ∨ cl7.slots.size ≤ ((1 : Int32)).toNatClampNeg) := inb_of S7 ⟨by decide, by decide⟩
    have hat7 : cl7.slots[((1 : Int32)).toNatClampNeg]? = some (.int i6) := H7.at hin7 rfl
    refine X6.iaload hx (j := (1 : Int32)) (v := (.int i6)) (by rw [show T6.heap = h0 from e6]; exact Ar7.1) (State.isArrayOf_alike hZ.alike Ar7.2.1) Ar7.2.2 hin7 hat7 (g := (mkF m 56 (lA4_ o0 (1 : Int32) j0 j1 (fcp j0 j3 i4)) [(.int (1 : Int32)), (.ref o4), (.ref o0), (.int (1 : Int32)), (.ref o4)])) rfl rfl (hb hby d4_56) _ ?_
    show Steps p.tables e below (T6.setTop (mkF m 57 (lA4_ o0 (1 : Int32) j0 j1 (fcp j0 j3 i4)) [(.int i6), (.ref o0), (.int (1 : Int32)), (.ref o4)])) _
    refine XS.lloadN X6.here hx rfl (hb hby d4_57) rfl ?_
    refine XS.lload X6.here hx rfl (hb hby d4_58) rfl ?_
    exact k
  refine own_cc (own_callP X6 hx hZ (y := y14_) hown (hW hw 38 rfl) (hW hw 39 rfl) (hW hw 3 rfl) (hW hw 41 rfl) (hW hw 40 rfl) (hW hw 2 rfl) dE_ (rm4_30 l Z a0 hw [] o0 i6 j0 j1 o2 o3 o4 o5 o6 i0 i1 i2 i3 i4 k0 j2 j3 j4 k1 j5 j6 j7 k2 i5 i7 k3 i8 (0 : Int32) i9 k4 i10 i11 i12 h0 n0 Z0 E_o0 g_o0 F_prices_o0 F_sizes_o0 F_left_o0 F_right_o0 F_heights_o0 F_root_o0 F_best_o0 F_unused_o0 F_free_o0 F_count_o0 F_highestFirst_o0 g_o2 V_o2 g_o3 V_o3 g_o4 V_o4 g_o5 V_o5 g_o6 V_o6 hp2 hp3 ne_o3_o2 ne_o4_o2 ne_o5_o2 ne_o6_o2 ne_o4_o3 ne_o5_o3 ne_o6_o3 ne_o5_o4 ne_o6_o4 ne_o6_o5) e6 2 dE_ dE_ dE_ dE_ rfl (by rw [hml]; rfl) o0 E_o0 [(.int i6), (.long j0), (.long j1)] [(.int (1 : Int32)), (.ref o4)] rfl (lenOf pd_3 rfl) rfl (by show 2 * 0 + _ ≤ _; exact Nat.le_of_eq rfl) (hb hby d4_60)) fun T9 L9 v9 X9 hQ9 => ?_
  obtain ⟨rfl, N9, K9, V_o6', V_o5', V_o4', V_o3', V_o2', E_o0', F_prices_o0', F_sizes_o0', F_left_o0', F_right_o0', F_heights_o0', F_root_o0', F_best_o0', F_unused_o0', F_free_o0', F_count_o0', F_highestFirst_o0'⟩ := hQ9
  replace N0 := Fr.app N0 N9
  replace E_o0 := E_o0.keep K9
  replace K0 := K0.trans K9 (allS (Or.inl (List.mem_of_getElem? (i := 5) rfl)) (allS (Or.inl (List.mem_of_getElem? (i := 4) rfl)) (allS (Or.inl (List.mem_of_getElem? (i := 3) rfl)) (allS (Or.inl (List.mem_of_getElem? (i := 2) rfl)) (allS (Or.inl (List.mem_of_getElem? (i := 1) rfl)) (allS (Or.inl (List.mem_of_getElem? (i := 0) rfl)) all0))))))
  replace Z0 := Nat.le_trans Z0 K9.1
  have V_o6 := V_o6'
  have V_o5 := V_o5'
  have V_o4 := V_o4'
  have V_o3 := V_o3'
  have V_o2 := V_o2'
  replace E_o0 := E_o0'
  have F_prices_o0 := F_prices_o0'
  have F_sizes_o0 := F_sizes_o0'
  have F_left_o0 := F_left_o0'
  have F_right_o0 := F_right_o0'
  have F_heights_o0 := F_heights_o0'
  have F_root_o0 := F_root_o0'
  have F_best_o0 := F_best_o0'
  have F_unused_o0 := F_unused_o0'
  have F_free_o0 := F_free_o0'
  have F_count_o0 := F_count_o0'
  have F_highestFirst_o0 := F_highestFirst_o0'
  show own_Go p e below _ (T9.setTop (mkF m 63 (lA4_ o0 (1 : Int32) j0 j1 (fcp j0 j3 i4)) [(.int (2 : Int32)), (.int (1 : Int32)), (.ref o4)]))
  have nx1 : o0 ≠ o4 := (own_nev E_o0 (hW hw 2 rfl) V_o4)
  obtain ⟨cl10, Ar10, q10, S10, N10, H10, G10⟩ := V_o4
  have hin10 : ¬ ((1 : Int32) < 0 ∨ cl10.slots.size ≤ ((1 : Int32)).toNatClampNeg) := inb_of S10 ⟨by decide, by decide⟩
  refine own_c2 (stI X9 hx hZ rfl Ar10 (j := (1 : Int32)) hin10 rfl rfl (hb hby d4_63)) fun T10 h10 X10 e10 W10 => ?_
  replace V_o4 : Arv Z h10 o4 k2 .int (8 : Int32) [(.int i5), (.int (2 : Int32)), oZ] oZ := Arv.set Ar10 q10 S10 N10 H10 G10 rfl W10 1 rfl nB_
  replace E_o0 := E_o0.wr W10
  replace V_o6 := V_o6.other W10 ne_o6_o4
  replace V_o5 := V_o5.other W10 ne_o5_o4
  replace V_o3 := V_o3.other W10 (Ne.symm ne_o4_o3)
  replace V_o2 := V_o2.other W10 (Ne.symm ne_o4_o2)
  replace F_prices_o0 := F_prices_o0.other W10 (Or.inl nx1)
  replace F_sizes_o0 := F_sizes_o0.other W10 (Or.inl nx1)
  replace F_left_o0 := F_left_o0.other W10 (Or.inl nx1)
  replace F_right_o0 := F_right_o0.other W10 (Or.inl nx1)
  replace F_heights_o0 := F_heights_o0.other W10 (Or.inl nx1)
  replace F_root_o0 := F_root_o0.other W10 (Or.inl nx1)
  replace F_best_o0 := F_best_o0.other W10 (Or.inl nx1)
  replace F_unused_o0 := F_unused_o0.other W10 (Or.inl nx1)
  replace F_free_o0 := F_free_o0.other W10 (Or.inl nx1)
  replace F_count_o0 := F_count_o0.other W10 (Or.inl nx1)
  replace F_highestFirst_o0 := F_highestFirst_o0.other W10 (Or.inl nx1)
  replace K0 := K0.wr W10 (Or.inl (List.mem_of_getElem? (i := 3) rfl))
  replace Z0 := Nat.le_trans Z0 (Keep.of_wr W10).1
  replace N0 := Fr.snoc X10 N0 g_o4
  show own_Go p e below _ (T10.setTop (mkF m 64 (lA4_ o0 (1 : Int32) j0 j1 (fcp j0 j3 i4)) []))
  refine own_by (B := T10.setTop (mkF m 88 (lA4_ o0 (1 : Int32) j0 j1 (fcp j0 j3 i4)) [(.int (1 : Int32)), (.ref o0)])) (fun t k => ?_) ?_
  · refine XS.goto X10.here hx rfl (pc0 := 64) (pc' := 86) rfl (hb hby d4_64) dE_ dE_ ?_
    show Steps p.tables e below (T10.setTop (mkF m 86 (lA4_ o0 (1 : Int32) j0 j1 (fcp j0 j3 i4)) [])) _
    refine XS.aloadN X10.here hx rfl (hb hby d4_86) rfl rfl ?_
    refine XS.iloadN X10.here hx rfl (hb hby d4_87) rfl ?_
    exact k
  refine own_cc (own_callP X10 hx hZ (y := y28_) hown (hW hw 56 rfl) (hW hw 57 rfl) (hW hw 3 rfl) (hW hw 59 rfl) (hW hw 58 rfl) (hW hw 2 rfl) dE_ (rm8_32 l Z a0 hw [] o0 o4 o5 o6 k2 i5 (0 : Int32) k3 i8 (0 : Int32) k4 i10 i11 (1 : Int32) h10 n0 Z0 E_o0 F_left_o0 F_right_o0 F_heights_o0 V_o4 V_o5 g_o6 V_o6 hp4 hp5 (Ne.symm ne_o6_o4) (Ne.symm ne_o6_o5)) e10 0 dE_ dE_ dE_ dE_ rfl (by rw [hml]; rfl) o0 E_o0 [(.int (1 : Int32))] [] rfl (lenOf pd_5 rfl) rfl (by show 2 * 0 + _ ≤ _; exact Nat.le_of_eq rfl) (hb hby d4_88)) fun T12 L12 v12 X12 hQ12 => ?_
  obtain ⟨rfl, N12, K12, V_o6'⟩ := hQ12
  replace N0 := Fr.app N0 N12
  have nx2 : o0 ≠ o6 := (own_nev E_o0 (hW hw 2 rfl) V_o6)
  replace E_o0 := E_o0.keep K12
  replace V_o5 := V_o5.keep K12 (ninS (Ne.symm ne_o6_o5) nin0)
  replace V_o4 := V_o4.keep K12 (ninS (Ne.symm ne_o6_o4) nin0)
  replace V_o3 := V_o3.keep K12 (ninS (Ne.symm ne_o6_o3) nin0)
  replace V_o2 := V_o2.keep K12 (ninS (Ne.symm ne_o6_o2) nin0)
  replace F_prices_o0 := F_prices_o0.keep K12 (ninS nx2 nin0)
  replace F_sizes_o0 := F_sizes_o0.keep K12 (ninS nx2 nin0)
  replace F_left_o0 := F_left_o0.keep K12 (ninS nx2 nin0)
  replace F_right_o0 := F_right_o0.keep K12 (ninS nx2 nin0)
  replace F_heights_o0 := F_heights_o0.keep K12 (ninS nx2 nin0)
  replace F_root_o0 := F_root_o0.keep K12 (ninS nx2 nin0)
  replace F_best_o0 := F_best_o0.keep K12 (ninS nx2 nin0)
  replace F_unused_o0 := F_unused_o0.keep K12 (ninS nx2 nin0)
  replace F_free_o0 := F_free_o0.keep K12 (ninS nx2 nin0)
  replace F_count_o0 := F_count_o0.keep K12 (ninS nx2 nin0)
  replace F_highestFirst_o0 := F_highestFirst_o0.keep K12 (ninS nx2 nin0)
  replace K0 := K0.trans K12 (allS (Or.inl (List.mem_of_getElem? (i := 5) rfl)) all0)
  replace Z0 := Nat.le_trans Z0 K12.1
  have V_o6 := V_o6'
  show own_Go p e below _ (T12.setTop (mkF m 91 (lA4_ o0 (1 : Int32) j0 j1 (fcp j0 j3 i4)) [(.int (1 : Int32))]))
  exact own_retI X12 Bd.notSynchronized hx Bd.returns (hb hby d4_91) ⟨rfl, N0, K0, E_o0, F_prices_o0, F_sizes_o0, F_left_o0, F_right_o0, F_heights_o0, F_root_o0, F_best_o0, F_unused_o0, F_free_o0, F_count_o0, F_highestFirst_o0, V_o2, V_o3, V_o4, V_o5, V_o6⟩ dE_ dE_

theorem d3_79 : dC15_ 79 (.aload_n 0, 1) := by decide +kernel
theorem d3_80 : dC15_ 80 (.aload_n 0, 1) := by decide +kernel
theorem d3_81 : dC15_ 81 (.getfield 18, 3) := by decide +kernel
theorem d3_84 : dC15_ 84 (.aload_n 0, 1) := by decide +kernel
theorem d3_85 : dC15_ 85 (.getfield 33, 3) := by decide +kernel
theorem d3_88 : dC15_ 88 (.iaload, 1) := by decide +kernel
theorem d3_89 : dC15_ 89 (.putfield 33, 3) := by decide +kernel
theorem d3_92 : dC15_ 92 (.goto (-25), 3) := by decide +kernel
def Q3_34 (Z : State) (o0 : Addr) (j0 j1 : Int64) (o2 o3 : Addr) (o4 o5 o6 : Addr) (i0 i1 : Int32) (i2 i3 : Int32) (k0 : ClassId) (j2 j3 j4 : Int64) (k1 : ClassId) (j5 j6 j7 : Int64) (k2 : ClassId) (i4 i5 i6 : Int32) (k3 : ClassId) (i7 i8 : Int32) (k4 : ClassId) (i9 i10 i11 : Int32) (h0 : Heap) (n0 : Nat) (v : Option Value) (h : Heap) (L : List Loc) : Prop := v = none ∧ Fr n0 L ∧ Keep h0 h [o6, o5, o4, o3, o2, o0] ∧ Arv Z h o6 k4 .byte (8 : Int32) [(.int i9), (.int (nar .byte (((1 : Int32) + (fmaxI (1 : Int32) i9)).toInt8.toInt32))), (.int (1 : Int32))] oZ ∧ Arv Z h o5 k3 .int (8 : Int32) [(.int i7), oZ, oZ] oZ ∧ Arv Z h o4 k2 .int (8 : Int32) [(.int i4), (.int (2 : Int32)), oZ] oZ ∧ Arv Z h o3 k1 .long (8 : Int32) [(.long j5), (.long j6), (.long j1)] oY ∧ Arv Z h o2 k0 .long (8 : Int32) [(.long j2), (.long j3), (.long j0)] oY ∧ Exa Z h o0 c0_ ∧ Fld Z h o0 c0_ "prices" "[J" (.ref o2) ∧ Fld Z h o0 c0_ "sizes" "[J" (.ref o3) ∧ Fld Z h o0 c0_ "left" "[I" (.ref o4) ∧ Fld Z h o0 c0_ "right" "[I" (.ref o5) ∧ Fld Z h o0 c0_ "heights" "[B" (.ref o6) ∧ Fld Z h o0 c0_ "root" "I" (.int (1 : Int32)) ∧ Fld Z h o0 c0_ "best" "I" (.int (2 : Int32)) ∧ Fld Z h o0 c0_ "unused" "I" (.int (3 : Int32)) ∧ Fld Z h o0 c0_ "free" "I" (.int i1) ∧ Fld Z h o0 c0_ "count" "I" (.int (i2 + (1 : Int32))) ∧ Fld Z h o0 c0_ "highestFirst" "Z" (.int i3)
set_option maxRecDepth 65536 in
set_option maxHeartbeats 40000000 in
theorem rm3_34 (l : Launch) (Z : State) (a0 : Array Value) (hw : oW_ a0 Z) (ws : List Jvm.Cond) (o0 : Addr) (j0 j1 : Int64) (o2 o3 : Addr) (o4 o5 o6 : Addr) (i0 i1 : Int32) (i2 i3 : Int32) (k0 : ClassId) (j2 j3 j4 : Int64) (k1 : ClassId) (j5 j6 j7 : Int64) (k2 : ClassId) (i4 i5 i6 : Int32) (k3 : ClassId) (i7 i8 : Int32) (k4 : ClassId) (i9 i10 i11 : Int32) (h0 : Heap) (n0 : Nat) (Z0 : n0 ≤ h0.size) (E_o0 : Exa Z h0 o0 c0_) (g_o0 : n0 ≤ o0) (F_prices_o0 : Fld Z h0 o0 c0_ "prices" "[J" (.ref o2)) (F_sizes_o0 : Fld Z h0 o0 c0_ "sizes" "[J" (.ref o3)) (F_left_o0 : Fld Z h0 o0 c0_ "left" "[I" (.ref o4)) (F_right_o0 : Fld Z h0 o0 c0_ "right" "[I" (.ref o5)) (F_heights_o0 : Fld Z h0 o0 c0_ "heights" "[B" (.ref o6)) (F_root_o0 : Fld Z h0 o0 c0_ "root" "I" (.int (1 : Int32))) (F_best_o0 : Fld Z h0 o0 c0_ "best" "I" (.int i0)) (F_unused_o0 : Fld Z h0 o0 c0_ "unused" "I" (.int (2 : Int32))) (F_free_o0 : Fld Z h0 o0 c0_ "free" "I" (.int i1)) (F_count_o0 : Fld Z h0 o0 c0_ "count" "I" (.int i2)) (F_highestFirst_o0 : Fld Z h0 o0 c0_ "highestFirst" "Z" (.int i3)) (g_o2 : n0 ≤ o2) (V_o2 : Arv Z h0 o2 k0 .long (8 : Int32) [(.long j2), (.long j3), (.long j4)] oY) (g_o3 : n0 ≤ o3) (V_o3 : Arv Z h0 o3 k1 .long (8 : Int32) [(.long j5), (.long j6), (.long j7)] oY) (g_o4 : n0 ≤ o4) (V_o4 : Arv Z h0 o4 k2 .int (8 : Int32) [(.int i4), (.int i5), (.int i6)] oZ) (g_o5 : n0 ≤ o5) (V_o5 : Arv Z h0 o5 k3 .int (8 : Int32) [(.int i7), oZ, (.int i8)] oZ) (g_o6 : n0 ≤ o6) (V_o6 : Arv Z h0 o6 k4 .byte (8 : Int32) [(.int i9), (.int i10), (.int i11)] oZ) (hp0 : ¬ (j1 = (0 : Int64))) (hp1 : i1 = (0 : Int32)) (hp2 : ¬ ((fcp j0 j3 i3) = (0 : Int32))) (hp3 : (fcp j0 j3 i3) < (0 : Int32)) (hp4 : i5 = (0 : Int32)) (ne_o3_o2 : o3 ≠ o2) (ne_o4_o2 : o4 ≠ o2) (ne_o5_o2 : o5 ≠ o2) (ne_o6_o2 : o6 ≠ o2) (ne_o4_o3 : o4 ≠ o3) (ne_o5_o3 : o5 ≠ o3) (ne_o6_o3 : o6 ≠ o3) (ne_o5_o4 : o5 ≠ o4) (ne_o6_o4 : o6 ≠ o4) (ne_o6_o5 : o6 ≠ o5) (hp5 : ¬ ((1 : Int32) < ((1 : Int32) - i9))) (hp6 : ¬ (((1 : Int32) - i9) < (-1 : Int32))) :
    MetFree l y15_ (head1 (Jvm.Cond.code y15_ prog_3_method_4_code 5 none :: ws) (rM_ 4 0 0 62)) (fun a U => a = #[(.ref o0), (.long j0), (.long j1)] ∧ Z.Warmed39 U.vm ∧ U.heap = h0) (fun _ _ _ _ _ => True) (fun _ U o U' => ∃ v L, o = .returned v ∧ Q3_34 Z o0 j0 j1 o2 o3 o4 o5 o6 i0 i1 i2 i3 k0 j2 j3 j4 k1 j5 j6 j7 k2 i4 i5 i6 k3 i7 i8 k4 i9 i10 i11 h0 n0 v U'.heap L ∧ FrameEnd U o U' L (rM_ 4 0 0 62).cells (rM_ 4 0 0 62).slots) := by
  refine MetFree.of_bodySF (plainFor_of_name pn_3) hisR ?_
  intro p e s m args below meth c s₁ Bd hml0 hP hK
  obtain ⟨rfl, hZ, hh⟩ := hP
  have hx := Bd.exec
  have hby := Bd.bytes
  have hml : c.maxLocals = 5 := hml0
  have hown : s.vm.findClass c0_ = some m.cls := findClass_of_methodNamed Bd.named
  have hnm := (name_of_methodNamed Bd.named Bd.method).1
  have X0 : Stand p l e (rM_ 4 0 0 62) s m #[(.ref o0), (.long j0), (.long j1)] below meth c s₁ [] 0 0 := Stand.of_body Bd
  have e0 : s₁.heap = h0 := by rw [← hh, Bd.state]; rfl
  have N0 := Fr.nil n0
  have K0 : Keep h0 h0 [o6, o5, o4, o3, o2, o0] := Keep.refl h0 _
  change own_Go p e below (own_Post s (Q3_34 Z o0 j0 j1 o2 o3 o4 o5 o6 i0 i1 i2 i3 k0 j2 j3 j4 k1 j5 j6 j7 k2 i4 i5 i6 k3 i7 i8 k4 i9 i10 i11 h0 n0) (rM_ 4 0 0 62).cells (rM_ 4 0 0 62).slots) (s₁.setTop (entryFrame m #[(.ref o0), (.long j0), (.long j1)] 5))
  refine own_by (fun t k => castTop (ef_3 m o0 j0 j1) k) ?_
  show own_Go p e below _ (s₁.setTop (mkF m 0 (lA0_ o0 j0 j1) []))
  refine own_by (B := s₁.setTop (mkF m 23 (lA0_ o0 j0 j1) [(.ref o0)])) (fun t k => ?_) ?_
  · refine XS.lloadN X0.here hx rfl (hb hby d3_0) rfl ?_
    refine XS.lconst X0.here hx rfl (hb hby d3_1) ?_
    refine XS.lcmp X0.here hx rfl (hb hby d3_2) rfl ?_
    show Steps p.tables e below (s₁.setTop (mkF m 3 (lA0_ o0 j0 j1) [(.int (lcmpW j1 (0 : Int64)))])) _
    refine XS.ifYes X0.here hx rfl (pc0 := 3) (pc' := 22) rfl (hb hby d3_3) rfl ((if0 _ _).trans (feq (fun q => hp0 ((lw_eq _ _).mp q))).2) dE_ dE_ ?_
    show Steps p.tables e below (s₁.setTop (mkF m 22 (lA0_ o0 j0 j1) [])) _
    refine XS.aloadN X0.here hx rfl (hb hby d3_22) rfl rfl ?_
    exact k
  refine own_c1 (getF X0 hx hZ hown (host := "") (Or.inl (hW hw 29 rfl)) Via.refl e0 F_free_o0 rfl rfl (hb hby d3_23)) fun T1 X1 e1 => ?_
  show own_Go p e below _ (T1.setTop (mkF m 26 (lA0_ o0 j0 j1) [(.int i1)]))
  refine own_by (B := T1.setTop (mkF m 30 (lA0_ o0 j0 j1) [(.ref o0)])) (fun t k => ?_) ?_
  · refine XS.ifNo X1.here hx rfl (hb hby d3_26) rfl ((if0 _ _).trans (teq hp1).2) ?_
    show Steps p.tables e below (T1.setTop (mkF m 29 (lA0_ o0 j0 j1) [])) _
    refine XS.aloadN X1.here hx rfl (hb hby d3_29) rfl rfl ?_
    exact k
  refine own_c1 (getF X1 hx hZ hown (host := "") (Or.inl (hW hw 27 rfl)) Via.refl e1 F_unused_o0 rfl rfl (hb hby d3_30)) fun T2 X2 e2 => ?_
  show own_Go p e below _ (T2.setTop (mkF m 33 (lA0_ o0 j0 j1) [(.int (2 : Int32))]))
  refine own_by (B := T2.setTop (mkF m 34 (lA0_ o0 j0 j1) [(.ref o0), (.int (2 : Int32))])) (fun t k => ?_) ?_
  · refine XS.aloadN X2.here hx rfl (hb hby d3_33) rfl rfl ?_
    exact k
  refine own_c1 (getF X2 hx hZ hown (host := "") (Or.inl (hW hw 11 rfl)) Via.refl e2 F_prices_o0 rfl rfl (hb hby d3_34)) fun T3 X3 e3 => ?_
  show own_Go p e below _ (T3.setTop (mkF m 37 (lA0_ o0 j0 j1) [(.ref o2), (.int (2 : Int32))]))
  refine own_by (B := T3.setTop (mkF m 48 (lA0_ o0 j0 j1) [(.ref o0), (.ref o0), (.ref o0)])) (fun t k => ?_) ?_
  · obtain ⟨cl4, Ar4, -, S4, N4, -, -⟩ := id V_o2
    refine X3.arraylength hx (by rw [show T3.heap = h0 from e3]; exact Ar4.1) (State.isArrayOf_alike hZ.alike Ar4.2.1) (g := (mkF m 37 (lA0_ o0 j0 j1) [(.ref o2), (.int (2 : Int32))])) rfl rfl (hb hby d3_37) _ ?_
    rw [len_of S4 N4]
    show Steps p.tables e below (T3.setTop (mkF m 38 (lA0_ o0 j0 j1) [(.int (8 : Int32)), (.int (2 : Int32))])) _
    refine XS.icmpYes X3.here hx rfl (pc0 := 38) (pc' := 45) rfl (hb hby d3_38) rfl (feq (by decide : ¬ ((2 : Int32) = (8 : Int32)))).2 dE_ dE_ ?_
    show Steps p.tables e below (T3.setTop (mkF m 45 (lA0_ o0 j0 j1) [])) _
    refine XS.aloadN X3.here hx rfl (hb hby d3_45) rfl rfl ?_
    refine XS.aloadN X3.here hx rfl (hb hby d3_46) rfl rfl ?_
    refine XS.aloadN X3.here hx rfl (hb hby d3_47) rfl rfl ?_
    exact k
  refine own_c1 (getF X3 hx hZ hown (host := "") (Or.inl (hW hw 23 rfl)) Via.refl e3 F_root_o0 rfl rfl (hb hby d3_48)) fun T5 X5 e5 => ?_
  show own_Go p e below _ (T5.setTop (mkF m 51 (lA0_ o0 j0 j1) [(.int (1 : Int32)), (.ref o0), (.ref o0)]))
  refine own_by (B := T5.setTop (mkF m 53 (lA0_ o0 j0 j1) [(.long j1), (.long j0), (.int (1 : Int32)), (.ref o0), (.ref o0)])) (fun t k => ?_) ?_
  · refine XS.lloadN X5.here hx rfl (hb hby d3_51) rfl ?_
    refine XS.lloadN X5.here hx rfl (hb hby d3_52) rfl ?_
    exact k
  refine own_cc (own_callP X5 hx hZ (y := y14_) hown (hW hw 38 rfl) (hW hw 39 rfl) (hW hw 3 rfl) (hW hw 41 rfl) (hW hw 40 rfl) (hW hw 2 rfl) dE_ (rm4_33 l Z a0 hw [] o0 j0 j1 o2 o3 o4 o5 o6 (1 : Int32) i0 i1 i2 i3 k0 j2 j3 j4 k1 j5 j6 j7 k2 i4 i5 i6 k3 i7 i8 k4 i9 i10 i11 h0 n0 Z0 E_o0 g_o0 F_prices_o0 F_sizes_o0 F_left_o0 F_right_o0 F_heights_o0 F_root_o0 F_best_o0 F_unused_o0 F_free_o0 F_count_o0 F_highestFirst_o0 g_o2 V_o2 g_o3 V_o3 g_o4 V_o4 g_o5 V_o5 g_o6 V_o6 hp2 hp3 hp4 hp1 ne_o3_o2 ne_o4_o2 ne_o5_o2 ne_o6_o2 ne_o4_o3 ne_o5_o3 ne_o6_o3 ne_o5_o4 ne_o6_o4 ne_o6_o5 hp5 hp6) e5 1 dE_ dE_ dE_ dE_ rfl (by rw [hml]; rfl) o0 E_o0 [(.int (1 : Int32)), (.long j0), (.long j1)] [(.ref o0)] rfl (lenOf pd_3 rfl) rfl (by show 2 * 0 + _ ≤ _; exact Nat.le_of_eq rfl) (hb hby d3_53)) fun T7 L7 v7 X7 hQ7 => ?_
  obtain ⟨rfl, N7, K7, E_o0', F_prices_o0', F_sizes_o0', F_left_o0', F_right_o0', F_heights_o0', F_root_o0', F_best_o0', F_unused_o0', F_free_o0', F_count_o0', F_highestFirst_o0', V_o2', V_o3', V_o4', V_o5', V_o6'⟩ := hQ7
  replace N0 := Fr.app N0 N7
  replace E_o0 := E_o0.keep K7
  replace K0 := K0.trans K7 (allS (Or.inl (List.mem_of_getElem? (i := 5) rfl)) (allS (Or.inl (List.mem_of_getElem? (i := 4) rfl)) (allS (Or.inl (List.mem_of_getElem? (i := 3) rfl)) (allS (Or.inl (List.mem_of_getElem? (i := 2) rfl)) (allS (Or.inl (List.mem_of_getElem? (i := 1) rfl)) (allS (Or.inl (List.mem_of_getElem? (i := 0) rfl)) all0))))))
  replace Z0 := Nat.le_trans Z0 K7.1
  replace E_o0 := E_o0'
  have F_prices_o0 := F_prices_o0'
  have F_sizes_o0 := F_sizes_o0'
  have F_left_o0 := F_left_o0'
  have F_right_o0 := F_right_o0'
  have F_heights_o0 := F_heights_o0'
  have F_root_o0 := F_root_o0'
  have F_best_o0 := F_best_o0'
  have F_unused_o0 := F_unused_o0'
  have F_free_o0 := F_free_o0'
  have F_count_o0 := F_count_o0'
  have F_highestFirst_o0 := F_highestFirst_o0'
  have V_o2 := V_o2'
  have V_o3 := V_o3'
  have V_o4 := V_o4'
  have V_o5 := V_o5'
  have V_o6 := V_o6'
  show own_Go p e below _ (T7.setTop (mkF m 56 (lA0_ o0 j0 j1) [(.int (1 : Int32)), (.ref o0)]))
  refine own_c2 (putF X7 hx hZ hown (host := "") (Or.inl (hW hw 23 rfl)) Via.refl rfl F_root_o0 E_o0 (Or.inl (hW hw 24 rfl)) (hW hw 2 rfl) (ty := .int) dE_ rfl rfl rfl rfl (hb hby d3_56)) fun T8 h8 X8 e8 W8 => ?_
  replace F_root_o0 := F_root_o0.same W8
  have nx1 : o2 ≠ o0 := (Ne.symm (own_nev E_o0 (hW hw 2 rfl) V_o2))
  have nx2 : o3 ≠ o0 := (Ne.symm (own_nev E_o0 (hW hw 2 rfl) V_o3))
  have nx3 : o4 ≠ o0 := (Ne.symm (own_nev E_o0 (hW hw 2 rfl) V_o4))
  have nx4 : o5 ≠ o0 := (Ne.symm (own_nev E_o0 (hW hw 2 rfl) V_o5))
  have nx5 : o6 ≠ o0 := (Ne.symm (own_nev E_o0 (hW hw 2 rfl) V_o6))
  replace E_o0 := E_o0.wr W8
  replace F_prices_o0 := F_prices_o0.other W8 (Or.inr (sn24 hw))
  replace F_sizes_o0 := F_sizes_o0.other W8 (Or.inr (sn25 hw))
  replace F_left_o0 := F_left_o0.other W8 (Or.inr (sn26 hw))
  replace F_right_o0 := F_right_o0.other W8 (Or.inr (sn27 hw))
  replace F_heights_o0 := F_heights_o0.other W8 (Or.inr (sn28 hw))
  replace F_best_o0 := F_best_o0.other W8 (Or.inr (sn29 hw))
  replace F_unused_o0 := F_unused_o0.other W8 (Or.inr (sn30 hw))
  replace F_free_o0 := F_free_o0.other W8 (Or.inr (sn31 hw))
  replace F_count_o0 := F_count_o0.other W8 (Or.inr (sn32 hw))
  replace F_highestFirst_o0 := F_highestFirst_o0.other W8 (Or.inr (sn33 hw))
  replace V_o2 := V_o2.other W8 nx1
  replace V_o3 := V_o3.other W8 nx2
  replace V_o4 := V_o4.other W8 nx3
  replace V_o5 := V_o5.other W8 nx4
  replace V_o6 := V_o6.other W8 nx5
  replace K0 := K0.wr W8 (Or.inl (List.mem_of_getElem? (i := 5) rfl))
  replace Z0 := Nat.le_trans Z0 (Keep.of_wr W8).1
  replace N0 := Fr.snoc X8 N0 g_o0
  show own_Go p e below _ (T8.setTop (mkF m 59 (lA0_ o0 j0 j1) []))
  refine own_by (B := T8.setTop (mkF m 61 (lA0_ o0 j0 j1) [(.ref o0), (.ref o0)])) (fun t k => ?_) ?_
  · refine XS.aloadN X8.here hx rfl (hb hby d3_59) rfl rfl ?_
    refine XS.aloadN X8.here hx rfl (hb hby d3_60) rfl rfl ?_
    exact k
  refine own_c1 (getF X8 hx hZ hown (host := "") (Or.inl (hW hw 23 rfl)) Via.refl e8 F_root_o0 rfl rfl (hb hby d3_61)) fun T9 X9 e9 => ?_
  show own_Go p e below _ (T9.setTop (mkF m 64 (lA0_ o0 j0 j1) [(.int (1 : Int32)), (.ref o0)]))
  refine own_c2 (putF X9 hx hZ hown (host := "") (Or.inl (hW hw 25 rfl)) Via.refl e9 F_best_o0 E_o0 (Or.inl (hW hw 26 rfl)) (hW hw 2 rfl) (ty := .int) dE_ rfl rfl rfl rfl (hb hby d3_64)) fun T10 h10 X10 e10 W10 => ?_
  replace F_best_o0 := F_best_o0.same W10
  replace E_o0 := E_o0.wr W10
  replace F_prices_o0 := F_prices_o0.other W10 (Or.inr (sn34 hw))
  replace F_sizes_o0 := F_sizes_o0.other W10 (Or.inr (sn35 hw))
  replace F_left_o0 := F_left_o0.other W10 (Or.inr (sn36 hw))
  replace F_right_o0 := F_right_o0.other W10 (Or.inr (sn37 hw))
  replace F_heights_o0 := F_heights_o0.other W10 (Or.inr (sn38 hw))
  replace F_root_o0 := F_root_o0.other W10 (Or.inr (sn39 hw))
  replace F_unused_o0 := F_unused_o0.other W10 (Or.inr (sn40 hw))
  replace F_free_o0 := F_free_o0.other W10 (Or.inr (sn41 hw))
  replace F_count_o0 := F_count_o0.other W10 (Or.inr (sn42 hw))
  replace F_highestFirst_o0 := F_highestFirst_o0.other W10 (Or.inr (sn43 hw))
  replace V_o2 := V_o2.other W10 nx1
  replace V_o3 := V_o3.other W10 nx2
  replace V_o4 := V_o4.other W10 nx3
  replace V_o5 := V_o5.other W10 nx4
  replace V_o6 := V_o6.other W10 nx5
  replace K0 := K0.wr W10 (Or.inl (List.mem_of_getElem? (i := 5) rfl))
  replace Z0 := Nat.le_trans Z0 (Keep.of_wr W10).1
  replace N0 := Fr.snoc X10 N0 g_o0
  show own_Go p e below _ (T10.setTop (mkF m 67 (lA0_ o0 j0 j1) []))
  refine own_by (B := T10.setTop (mkF m 68 (lA0_ o0 j0 j1) [(.ref o0)])) (fun t k => ?_) ?_
  · refine XS.aloadN X10.here hx rfl (hb hby d3_67) rfl rfl ?_
    exact k
  refine own_c1 (getF X10 hx hZ hown (host := "") (Or.inl (hW hw 16 rfl)) Via.refl e10 F_left_o0 rfl rfl (hb hby d3_68)) fun T11 X11 e11 => ?_
  show own_Go p e below _ (T11.setTop (mkF m 71 (lA0_ o0 j0 j1) [(.ref o4)]))
  refine own_by (B := T11.setTop (mkF m 72 (lA0_ o0 j0 j1) [(.ref o0), (.ref o4)])) (fun t k => ?_) ?_
  · refine XS.aloadN X11.here hx rfl (hb hby d3_71) rfl rfl ?_
    exact k
  refine own_c1 (getF X11 hx hZ hown (host := "") (Or.inl (hW hw 25 rfl)) Via.refl e11 F_best_o0 rfl rfl (hb hby d3_72)) fun T12 X12 e12 => ?_
  show own_Go p e below _ (T12.setTop (mkF m 75 (lA0_ o0 j0 j1) [(.int (1 : Int32)), (.ref o4)]))
  refine own_by (B := T12.setTop (mkF m 81 (lA0_ o0 j0 j1) [(.ref o0), (.ref o0)])) (fun t k => ?_) ?_
  · obtain ⟨cl13, Ar13, q13, S13, N13, H13, G13⟩ := id V_o4
    have hin13 : ¬ ((1 : Int32) < 0 ∨ cl13.slots.size ≤ ((1 : Int32)).toNatClampNeg) := inb_of S13 ⟨by decide, by decide⟩
    have hat13 : cl13.slots[((1 : Int32)).toNatClampNeg]? = some (.int (2 : Int32)) := H13.at hin13 rfl
    refine X12.iaload hx (j := (1 : Int32)) (v := (.int (2 : Int32))) (by rw [show T12.heap = h10 from e12]; exact Ar13.1) (State.isArrayOf_alike hZ.alike Ar13.2.1) Ar13.2.2 hin13 hat13 (g := (mkF m 75 (lA0_ o0 j0 j1) [(.int (1 : Int32)), (.ref o4)])) rfl rfl (hb hby d3_75) _ ?_
    show Steps p.tables e below (T12.setTop (mkF m 76 (lA0_ o0 j0 j1) [(.int (2 : Int32))])) _
    refine XS.ifNo X12.here hx rfl (hb hby d3_76) rfl ((if0 _ _).trans (feq (by decide : ¬ ((2 : Int32) = (0 : Int32)))).1) ?_
    show Steps p.tables e below (T12.setTop (mkF m 79 (lA0_ o0 j0 j1) [])) _
    refine XS.aloadN X12.here hx rfl (hb hby d3_79) rfl rfl ?_
    refine XS.aloadN X12.here hx rfl (hb hby d3_80) rfl rfl ?_
    exact k
  refine own_c1 (getF X12 hx hZ hown (host := "") (Or.inl (hW hw 16 rfl)) Via.refl e12 F_left_o0 rfl rfl (hb hby d3_81)) fun T14 X14 e14 => ?_
  show own_Go p e below _ (T14.setTop (mkF m 84 (lA0_ o0 j0 j1) [(.ref o4), (.ref o0)]))
  refine own_by (B := T14.setTop (mkF m 85 (lA0_ o0 j0 j1) [(.ref o0), (.ref o4), (.ref o0)])) (fun t k => ?_) ?_
  · refine XS.aloadN X14.here hx rfl (hb hby d3_84) rfl rfl ?_
    exact k
  refine own_c1 (getF X14 hx hZ hown (host := "") (Or.inl (hW hw 25 rfl)) Via.refl e14 F_best_o0 rfl rfl (hb hby d3_85)) fun T15 X15 e15 => ?_
  show own_Go p e below _ (T15.setTop (mkF m 88 (lA0_ o0 j0 j1) [(.int (1 : Int32)), (.ref o4), (.ref o0)]))
  refine own_by (B := T15.setTop (mkF m 89 (lA0_ o0 j0 j1) [(.int (2 : Int32)), (.ref o0)])) (fun t k => ?_) ?_
  · obtain ⟨cl16, Ar16, q16, S16, N16, H16, G16⟩ := id V_o4
    have hin16 : ¬ ((1 : Int32) < 0 ∨ cl16.slots.size ≤ ((1 : Int32)).toNatClampNeg) := inb_of S16 ⟨by decide, by decide⟩
    have hat16 : cl16.slots[((1 : Int32)).toNatClampNeg]? = some (.int (2 : Int32)) := H16.at hin16 rfl
    refine X15.iaload hx (j := (1 : Int32)) (v := (.int (2 : Int32))) (by rw [show T15.heap = h10 from e15]; exact Ar16.1) (State.isArrayOf_alike hZ.alike Ar16.2.1) Ar16.2.2 hin16 hat16 (g := (mkF m 88 (lA0_ o0 j0 j1) [(.int (1 : Int32)), (.ref o4), (.ref o0)])) rfl rfl (hb hby d3_88) _ ?_
    show Steps p.tables e below (T15.setTop (mkF m 89 (lA0_ o0 j0 j1) [(.int (2 : Int32)), (.ref o0)])) _
    exact k
  refine own_c2 (putF X15 hx hZ hown (host := "") (Or.inl (hW hw 25 rfl)) Via.refl e15 F_best_o0 E_o0 (Or.inl (hW hw 26 rfl)) (hW hw 2 rfl) (ty := .int) dE_ rfl rfl rfl rfl (hb hby d3_89)) fun T17 h17 X17 e17 W17 => ?_
  replace F_best_o0 := F_best_o0.same W17
  replace E_o0 := E_o0.wr W17
  replace F_prices_o0 := F_prices_o0.other W17 (Or.inr (sn34 hw))
  replace F_sizes_o0 := F_sizes_o0.other W17 (Or.inr (sn35 hw))
  replace F_left_o0 := F_left_o0.other W17 (Or.inr (sn36 hw))
  replace F_right_o0 := F_right_o0.other W17 (Or.inr (sn37 hw))
  replace F_heights_o0 := F_heights_o0.other W17 (Or.inr (sn38 hw))
  replace F_root_o0 := F_root_o0.other W17 (Or.inr (sn39 hw))
  replace F_unused_o0 := F_unused_o0.other W17 (Or.inr (sn40 hw))
  replace F_free_o0 := F_free_o0.other W17 (Or.inr (sn41 hw))
  replace F_count_o0 := F_count_o0.other W17 (Or.inr (sn42 hw))
  replace F_highestFirst_o0 := F_highestFirst_o0.other W17 (Or.inr (sn43 hw))
  replace V_o2 := V_o2.other W17 nx1
  replace V_o3 := V_o3.other W17 nx2
  replace V_o4 := V_o4.other W17 nx3
  replace V_o5 := V_o5.other W17 nx4
  replace V_o6 := V_o6.other W17 nx5
  replace K0 := K0.wr W17 (Or.inl (List.mem_of_getElem? (i := 5) rfl))
  replace Z0 := Nat.le_trans Z0 (Keep.of_wr W17).1
  replace N0 := Fr.snoc X17 N0 g_o0
  show own_Go p e below _ (T17.setTop (mkF m 92 (lA0_ o0 j0 j1) []))
  refine own_by (B := T17.setTop (mkF m 68 (lA0_ o0 j0 j1) [(.ref o0)])) (fun t k => ?_) ?_
  · refine XS.goto X17.here hx rfl (pc0 := 92) (pc' := 67) rfl (hb hby d3_92) dE_ dE_ ?_
    show Steps p.tables e below (T17.setTop (mkF m 67 (lA0_ o0 j0 j1) [])) _
    refine XS.aloadN X17.here hx rfl (hb hby d3_67) rfl rfl ?_
    exact k
  refine own_c1 (getF X17 hx hZ hown (host := "") (Or.inl (hW hw 16 rfl)) Via.refl e17 F_left_o0 rfl rfl (hb hby d3_68)) fun T18 X18 e18 => ?_
  show own_Go p e below _ (T18.setTop (mkF m 71 (lA0_ o0 j0 j1) [(.ref o4)]))
  refine own_by (B := T18.setTop (mkF m 72 (lA0_ o0 j0 j1) [(.ref o0), (.ref o4)])) (fun t k => ?_) ?_
  · refine XS.aloadN X18.here hx rfl (hb hby d3_71) rfl rfl ?_
    exact k
  refine own_c1 (getF X18 hx hZ hown (host := "") (Or.inl (hW hw 25 rfl)) Via.refl e18 F_best_o0 rfl rfl (hb hby d3_72)) fun T19 X19 e19 => ?_
  show own_Go p e below _ (T19.setTop (mkF m 75 (lA0_ o0 j0 j1) [(.int (2 : Int32)), (.ref o4)]))
  refine own_by (B := T19.setTop (mkF m 95 (lA0_ o0 j0 j1) [])) (fun t k => ?_) ?_
  · obtain ⟨cl20, Ar20, q20, S20, N20, H20, G20⟩ := id V_o4
    have hin20 : ¬ ((2 : Int32) < 0 ∨ cl20.slots.size ≤ ((2 : Int32)).toNatClampNeg) := inb_of S20 ⟨by decide, by decide⟩
    have hat20 : cl20.slots[((2 : Int32)).toNatClampNeg]? = some oZ := H20.at hin20 rfl
    refine X19.iaload hx (j := (2 : Int32)) (v := oZ) (by rw [show T19.heap = h17 from e19]; exact Ar20.1) (State.isArrayOf_alike hZ.alike Ar20.2.1) Ar20.2.2 hin20 hat20 (g := (mkF m 75 (lA0_ o0 j0 j1) [(.int (2 : Int32)), (.ref o4)])) rfl rfl (hb hby d3_75) _ ?_
    show Steps p.tables e below (T19.setTop (mkF m 76 (lA0_ o0 j0 j1) [oZ])) _
    refine XS.ifYes X19.here hx rfl (pc0 := 76) (pc' := 95) rfl (hb hby d3_76) rfl ((if0 _ _).trans (teq (by decide : (0 : Int32) = (0 : Int32))).1) dE_ dE_ ?_
    show Steps p.tables e below (T19.setTop (mkF m 95 (lA0_ o0 j0 j1) [])) _
    exact k
  exact own_retV X19 Bd.notSynchronized hx Bd.returns (hb hby d3_95) (by
      try rw [show T19.heap = h17 from e19]
      exact ⟨rfl, N0, K0, V_o6, V_o5, V_o4, V_o3, V_o2, E_o0, F_prices_o0, F_sizes_o0, F_left_o0, F_right_o0, F_heights_o0, F_root_o0, F_best_o0, F_unused_o0, F_free_o0, F_count_o0, F_highestFirst_o0⟩) dE_ dE_

def Q15_35 (Z : State) (o0 : Addr) (i0 i1 : Int32) (h0 : Heap) (n0 : Nat) (v : Option Value) (h : Heap) (L : List Loc) : Prop := ∃ b3 : Addr, ∃ k3 : ClassId, v = none ∧ Fr n0 L ∧ Keep h0 h [o0] ∧ Exa Z h o0 c1_ ∧ Fld Z h o0 c6_ "modCount" "I" oZ ∧ Fld Z h o0 c1_ "elementData" c5_ (.ref b3) ∧ Fld Z h o0 c1_ "size" "I" (.int i1) ∧ Arv Z h b3 k3 (.object c3_) (2 : Int32) [] .null ∧ Ovr Z k3 c3_ ∧ h0.size ≤ b3
set_option maxRecDepth 65536 in
set_option maxHeartbeats 40000000 in
theorem rm15_35 (l : Launch) (Z : State) (a0 : Array Value) (hw : oW_ a0 Z) (ws : List Jvm.Cond) (o0 : Addr) (i0 i1 : Int32) (h0 : Heap) (n0 : Nat) (Z0 : n0 ≤ h0.size) (g_o0 : n0 ≤ o0) (E_o0 : Exa Z h0 o0 c1_) (F_modCount_o0 : Fld Z h0 o0 c6_ "modCount" "I" (.int i0)) (F_elementData_o0 : Fld Z h0 o0 c1_ "elementData" c5_ .null) (F_size_o0 : Fld Z h0 o0 c1_ "size" "I" (.int i1)) :
    MetFree l y9_ (head1 (Jvm.Cond.code y9_ jdk_38_method_1_code 2 none :: ws) (rM_ 3 1 2 36)) (fun a U => a = #[(.ref o0), (.int (2 : Int32))] ∧ Z.Warmed39 U.vm ∧ U.heap = h0) (fun _ _ _ _ _ => True) (fun _ U o U' => ∃ v L, o = .returned v ∧ Q15_35 Z o0 i0 i1 h0 n0 v U'.heap L ∧ FrameEnd U o U' L (rM_ 3 1 2 36).cells (rM_ 3 1 2 36).slots) := by
  refine MetFree.of_bodySF (plainFor_of_name pn_15) hisR ?_
  intro p e s m args below meth c s₁ Bd hml0 hP hK
  obtain ⟨rfl, hZ, hh⟩ := hP
  have hx := Bd.exec
  have hby := Bd.bytes
  have hml : c.maxLocals = 2 := hml0
  have hown : s.vm.findClass c1_ = some m.cls := findClass_of_methodNamed Bd.named
  have hnm := (name_of_methodNamed Bd.named Bd.method).1
  have X0 : Stand p l e (rM_ 3 1 2 36) s m #[(.ref o0), (.int (2 : Int32))] below meth c s₁ [] 0 0 := Stand.of_body Bd
  have e0 : s₁.heap = h0 := by rw [← hh, Bd.state]; rfl
  have N0 := Fr.nil n0
  have K0 : Keep h0 h0 [o0] := Keep.refl h0 _
  change own_Go p e below (own_Post s (Q15_35 Z o0 i0 i1 h0 n0) (rM_ 3 1 2 36).cells (rM_ 3 1 2 36).slots) (s₁.setTop (entryFrame m #[(.ref o0), (.int (2 : Int32))] 2))
  refine own_by (fun t k => castTop (ef_15 m o0 (2 : Int32)) k) ?_
  show own_Go p e below _ (s₁.setTop (mkF m 0 #[rv o0, iv (2 : Int32)] []))
  refine own_by (B := s₁.setTop (mkF m 1 #[rv o0, iv (2 : Int32)] [(.ref o0)])) (fun t k => ?_) ?_
  · refine XS.aloadN X0.here hx rfl (hb hby d15_0) rfl rfl ?_
    exact k
  refine own_cc (own_callI X0 hx hZ (y := y8_) rfl hown (hW hw 94 rfl) (hW hw 95 rfl) (hW hw 98 rfl) (hW hw 99 rfl) dE_ (rm16_4 l Z a0 hw [] o0 i0 i1 h0 n0 Z0 g_o0 E_o0 F_modCount_o0 F_elementData_o0 F_size_o0) e0 0 dE_ dE_ dE_ dE_ rfl (by rw [hml]; rfl) o0 [] [] rfl (lenOf pd_1 rfl) rfl (by show 2 * 0 + _ ≤ _; exact Nat.le_of_eq rfl) (hb hby d15_1)) fun T2 L2 v2 X2 hQ2 => ?_
  obtain ⟨rfl, N2, K2, E_o0', F_modCount_o0', F_elementData_o0', F_size_o0'⟩ := hQ2
  replace N0 := Fr.app N0 N2
  replace E_o0 := E_o0.keep K2
  replace K0 := K0.trans K2 (allS (Or.inl (List.mem_of_getElem? (i := 0) rfl)) all0)
  replace Z0 := Nat.le_trans Z0 K2.1
  replace E_o0 := E_o0'
  have F_modCount_o0 := F_modCount_o0'
  have F_elementData_o0 := F_elementData_o0'
  have F_size_o0 := F_size_o0'
  show own_Go p e below _ (T2.setTop (mkF m 4 #[rv o0, iv (2 : Int32)] []))
  refine own_by (B := T2.setTop (mkF m 10 #[rv o0, iv (2 : Int32)] [(.int (2 : Int32)), (.ref o0)])) (fun t k => ?_) ?_
  · refine XS.iloadN X2.here hx rfl (hb hby d15_4) rfl ?_
    refine XS.ifNo X2.here hx rfl (hb hby d15_5) rfl ((if0 _ _).trans (tlt (by decide : (0 : Int32) < (2 : Int32))).2.2.2) ?_
    show Steps p.tables e below (T2.setTop (mkF m 8 #[rv o0, iv (2 : Int32)] [])) _
    refine XS.aloadN X2.here hx rfl (hb hby d15_8) rfl rfl ?_
    refine XS.iloadN X2.here hx rfl (hb hby d15_9) rfl ?_
    exact k
  obtain ⟨T3, h3, k3, X3, e3, E3, A3, O3, st3⟩ := newR X2 hx hZ hown (hW hw 127 rfl) (hW hw 128 rfl) rfl (g := (mkF m 10 #[rv o0, iv (2 : Int32)] [(.int (2 : Int32)), (.ref o0)])) rfl (hb hby d15_10) rfl dE_ (cap := 2) dE_ dE_ dE_ dE_
  obtain ⟨b3, g3⟩ : ∃ z, z = T2.heap.size := ⟨_, rfl⟩
  rw [← g3] at A3 st3
  have g_b3 : n0 ≤ b3 := Nat.le_trans Z0 (Nat.le_of_eq g3.symm)
  have sz_b3 : h0.size ≤ b3 := Nat.le_trans K0.1 (Nat.le_of_eq g3.symm)
  have ne_o0_b3 : o0 ≠ b3 := Nat.ne_of_lt (Nat.lt_of_lt_of_le E_o0.lt (Nat.le_of_eq g3.symm))
  replace E_o0 := E_o0.ext E3
  replace F_modCount_o0 := F_modCount_o0.ext E3
  replace F_elementData_o0 := F_elementData_o0.ext E3
  replace F_size_o0 := F_size_o0.ext E3
  replace K0 := K0.ext E3
  replace Z0 := Nat.le_trans Z0 E3.1
  have V_b3 : Arv Z h3 b3 k3 (.object c3_) (2 : Int32) [] .null := Arv.new A3 dE_
  have Ov_k3 := O3
  refine own_by st3 ?_
  show own_Go p e below _ (T3.setTop (mkF m 13 #[rv o0, iv (2 : Int32)] [(.ref b3), (.ref o0)]))
  refine own_c2 (putF X3 hx hZ hown (host := "") (Or.inl (hW hw 110 rfl)) Via.refl e3 F_elementData_o0 E_o0 (Or.inl (hW hw 111 rfl)) (hW hw 89 rfl) (ty := (.array (.object c3_))) dE_ rfl rfl rfl rfl (hb hby d15_13)) fun T4 h4 X4 e4 W4 => ?_
  replace F_elementData_o0 := F_elementData_o0.same W4
  replace E_o0 := E_o0.wr W4
  replace F_modCount_o0 := F_modCount_o0.other W4 (Or.inr (sn2 hw))
  replace F_size_o0 := F_size_o0.other W4 (Or.inr (sn3 hw))
  replace V_b3 := V_b3.other W4 (Ne.symm ne_o0_b3)
  replace K0 := K0.wr W4 (Or.inl (List.mem_of_getElem? (i := 0) rfl))
  replace Z0 := Nat.le_trans Z0 (Keep.of_wr W4).1
  replace N0 := Fr.snoc X4 N0 g_o0
  show own_Go p e below _ (T4.setTop (mkF m 16 #[rv o0, iv (2 : Int32)] []))
  refine own_by (B := T4.setTop (mkF m 60 #[rv o0, iv (2 : Int32)] [])) (fun t k => ?_) ?_
  · refine XS.goto X4.here hx rfl (pc0 := 16) (pc' := 60) rfl (hb hby d15_16) dE_ dE_ ?_
    show Steps p.tables e below (T4.setTop (mkF m 60 #[rv o0, iv (2 : Int32)] [])) _
    exact k
  exact own_retV X4 Bd.notSynchronized hx Bd.returns (hb hby d15_60) (by
      try rw [show T4.heap = h4 from e4]
      exact ⟨b3, k3, rfl, N0, K0, E_o0, F_modCount_o0, F_elementData_o0, F_size_o0, V_b3, Ov_k3, sz_b3⟩) dE_ dE_

def Q23_36 (Z : State) (o0 o1 o2 : Addr) (i0 i1 : Int32) (k0 : ClassId) (h0 : Heap) (n0 : Nat) (v : Option Value) (h : Heap) (L : List Loc) : Prop := v = none ∧ Fr n0 L ∧ Keep h0 h [o2, o0] ∧ Arv Z h o2 k0 (.object c3_) (2 : Int32) [(.ref o1)] .null ∧ Exa Z h o0 c1_ ∧ Fld Z h o0 c6_ "modCount" "I" (.int i0) ∧ Fld Z h o0 c1_ "elementData" c5_ (.ref o2) ∧ Fld Z h o0 c1_ "size" "I" (.int (1 : Int32))
set_option maxRecDepth 65536 in
set_option maxHeartbeats 40000000 in
theorem rm23_36 (l : Launch) (Z : State) (a0 : Array Value) (hw : oW_ a0 Z) (ws : List Jvm.Cond) (o0 o1 o2 : Addr) (i0 i1 : Int32) (k0 : ClassId) (h0 : Heap) (n0 : Nat) (Z0 : n0 ≤ h0.size) (g_o0 : n0 ≤ o0) (E_o0 : Exa Z h0 o0 c1_) (F_modCount_o0 : Fld Z h0 o0 c6_ "modCount" "I" (.int i0)) (F_elementData_o0 : Fld Z h0 o0 c1_ "elementData" c5_ (.ref o2)) (F_size_o0 : Fld Z h0 o0 c1_ "size" "I" (.int i1)) (E_o1 : Exa Z h0 o1 c2_) (g_o2 : n0 ≤ o2) (V_o2 : Arv Z h0 o2 k0 (.object c3_) (2 : Int32) [] .null) (Ov_k0 : Ovr Z k0 c3_) :
    MetFree l y18_ (head1 (Jvm.Cond.code y18_ jdk_38_method_24_code 4 none :: ws) (rM_ 0 0 0 0)) (fun a U => a = #[(.ref o0), (.ref o1), (.ref o2), oZ] ∧ Z.Warmed39 U.vm ∧ U.heap = h0) (fun _ _ _ _ _ => True) (fun _ U o U' => ∃ v L, o = .returned v ∧ Q23_36 Z o0 o1 o2 i0 i1 k0 h0 n0 v U'.heap L ∧ FrameEnd U o U' L (rM_ 0 0 0 0).cells (rM_ 0 0 0 0).slots) := by
  refine MetFree.of_bodySF (plainFor_of_name pn_23) hisR ?_
  intro p e s m args below meth c s₁ Bd hml0 hP hK
  obtain ⟨rfl, hZ, hh⟩ := hP
  have hx := Bd.exec
  have hby := Bd.bytes
  have hml : c.maxLocals = 4 := hml0
  have hown : s.vm.findClass c1_ = some m.cls := findClass_of_methodNamed Bd.named
  have hnm := (name_of_methodNamed Bd.named Bd.method).1
  have X0 : Stand p l e (rM_ 0 0 0 0) s m #[(.ref o0), (.ref o1), (.ref o2), oZ] below meth c s₁ [] 0 0 := Stand.of_body Bd
  have e0 : s₁.heap = h0 := by rw [← hh, Bd.state]; rfl
  have N0 := Fr.nil n0
  have K0 : Keep h0 h0 [o2, o0] := Keep.refl h0 _
  change own_Go p e below (own_Post s (Q23_36 Z o0 o1 o2 i0 i1 k0 h0 n0) (rM_ 0 0 0 0).cells (rM_ 0 0 0 0).slots) (s₁.setTop (entryFrame m #[(.ref o0), (.ref o1), (.ref o2), oZ] 4))
  refine own_by (fun t k => castTop (ef_23 m o0 o1 o2 (0 : Int32)) k) ?_
  show own_Go p e below _ (s₁.setTop (mkF m 0 #[rv o0, rv o1, rv o2, iv (0 : Int32)] []))
  refine own_by (B := s₁.setTop (mkF m 14 #[rv o0, rv o1, rv o2, iv (0 : Int32)] [(.ref o1), oZ, (.ref o2)])) (fun t k => ?_) ?_
  · refine XS.iloadN X0.here hx rfl (hb hby d23_0) rfl ?_
    refine XS.aloadN X0.here hx rfl (hb hby d23_1) rfl rfl ?_
    obtain ⟨cl1, Ar1, -, S1, N1, -, -⟩ := id V_o2
    refine X0.arraylength hx (by rw [show s₁.heap = h0 from e0]; exact Ar1.1) (State.isArrayOf_alike hZ.alike Ar1.2.1) (g := (mkF m 2 #[rv o0, rv o1, rv o2, iv (0 : Int32)] [(.ref o2), oZ])) rfl rfl (hb hby d23_2) _ ?_
    rw [len_of S1 N1]
    show Steps p.tables e below (s₁.setTop (mkF m 3 #[rv o0, rv o1, rv o2, iv (0 : Int32)] [(.int (2 : Int32)), oZ])) _
    refine XS.icmpYes X0.here hx rfl (pc0 := 3) (pc' := 11) rfl (hb hby d23_3) rfl (feq (by decide : ¬ ((0 : Int32) = (2 : Int32)))).2 dE_ dE_ ?_
    show Steps p.tables e below (s₁.setTop (mkF m 11 #[rv o0, rv o1, rv o2, iv (0 : Int32)] [])) _
    refine XS.aloadN X0.here hx rfl (hb hby d23_11) rfl rfl ?_
    refine XS.iloadN X0.here hx rfl (hb hby d23_12) rfl ?_
    refine XS.aloadN X0.here hx rfl (hb hby d23_13) rfl rfl ?_
    exact k
  replace V_o2 : Arv Z h0 o2 k0 (.object c3_) (2 : Int32) [.null] .null := V_o2.pad (pad_rep [] .null 1)
  have nx1 : o0 ≠ o2 := (own_nev E_o0 (hW hw 89 rfl) V_o2)
  obtain ⟨cl2, Ar2, q2, S2, N2, H2, G2⟩ := id V_o2
  have hin2 : ¬ ((0 : Int32) < 0 ∨ cl2.slots.size ≤ ((0 : Int32)).toNatClampNeg) := inb_of S2 ⟨by decide, by decide⟩
  refine own_c2 (stR X0 hx hZ e0 Ar2 (j := (0 : Int32)) hin2 rfl (Sto.ofV Ar2 q2 Ov_k0 (Ins.of_exa E_o1 (hW hw 160 rfl))) rfl rfl (hb hby d23_14)) fun T2 h2 X2 e2 W2 => ?_
  replace V_o2 : Arv Z h2 o2 k0 (.object c3_) (2 : Int32) [(.ref o1)] .null := Arv.set Ar2 q2 S2 N2 H2 G2 rfl W2 0 rfl nB_
  replace E_o0 := E_o0.wr W2
  replace F_modCount_o0 := F_modCount_o0.other W2 (Or.inl nx1)
  replace F_elementData_o0 := F_elementData_o0.other W2 (Or.inl nx1)
  replace F_size_o0 := F_size_o0.other W2 (Or.inl nx1)
  replace E_o1 := E_o1.wr W2
  replace K0 := K0.wr W2 (Or.inl (List.mem_of_getElem? (i := 0) rfl))
  replace Z0 := Nat.le_trans Z0 (Keep.of_wr W2).1
  replace N0 := Fr.snoc X2 N0 g_o2
  show own_Go p e below _ (T2.setTop (mkF m 15 #[rv o0, rv o1, rv o2, iv (0 : Int32)] []))
  refine own_by (B := T2.setTop (mkF m 19 #[rv o0, rv o1, rv o2, iv (0 : Int32)] [(.int (1 : Int32)), (.ref o0)])) (fun t k => ?_) ?_
  · refine XS.aloadN X2.here hx rfl (hb hby d23_15) rfl rfl ?_
    refine XS.iloadN X2.here hx rfl (hb hby d23_16) rfl ?_
    refine XS.iconst X2.here hx rfl (hb hby d23_17) ?_
    refine XS.iadd X2.here hx rfl (hb hby d23_18) rfl ?_
    show Steps p.tables e below (T2.setTop (mkF m 19 #[rv o0, rv o1, rv o2, iv (0 : Int32)] [(.int (1 : Int32)), (.ref o0)])) _
    exact k
  refine own_c2 (putF X2 hx hZ hown (host := "") (Or.inl (hW hw 125 rfl)) Via.refl e2 F_size_o0 E_o0 (Or.inl (hW hw 126 rfl)) (hW hw 89 rfl) (ty := .int) dE_ rfl rfl rfl rfl (hb hby d23_19)) fun T3 h3 X3 e3 W3 => ?_
  replace F_size_o0 := F_size_o0.same W3
  replace E_o0 := E_o0.wr W3
  replace F_modCount_o0 := F_modCount_o0.other W3 (Or.inr (sn46 hw))
  replace F_elementData_o0 := F_elementData_o0.other W3 (Or.inr (sn47 hw))
  replace E_o1 := E_o1.wr W3
  replace V_o2 := V_o2.other W3 (Ne.symm nx1)
  replace K0 := K0.wr W3 (Or.inl (List.mem_of_getElem? (i := 1) rfl))
  replace Z0 := Nat.le_trans Z0 (Keep.of_wr W3).1
  replace N0 := Fr.snoc X3 N0 g_o0
  show own_Go p e below _ (T3.setTop (mkF m 22 #[rv o0, rv o1, rv o2, iv (0 : Int32)] []))
  exact own_retV X3 Bd.notSynchronized hx Bd.returns (hb hby d23_22) (by
      try rw [show T3.heap = h3 from e3]
      exact ⟨rfl, N0, K0, V_o2, E_o0, F_modCount_o0, F_elementData_o0, F_size_o0⟩) dE_ dE_

def Q22_37 (Z : State) (o0 o1 o3 : Addr) (i0 : Int32) (k0 : ClassId) (h0 : Heap) (n0 : Nat) (v : Option Value) (h : Heap) (L : List Loc) : Prop := v = some (.int (1 : Int32)) ∧ Fr n0 L ∧ Keep h0 h [o0, o3] ∧ Exa Z h o0 c1_ ∧ Fld Z h o0 c6_ "modCount" "I" (.int (i0 + (1 : Int32))) ∧ Fld Z h o0 c1_ "elementData" c5_ (.ref o3) ∧ Fld Z h o0 c1_ "size" "I" (.int (1 : Int32)) ∧ Arv Z h o3 k0 (.object c3_) (2 : Int32) [(.ref o1)] .null
set_option maxRecDepth 65536 in
set_option maxHeartbeats 40000000 in
theorem rm22_37 (l : Launch) (Z : State) (a0 : Array Value) (hw : oW_ a0 Z) (ws : List Jvm.Cond) (o0 o1 o3 : Addr) (i0 : Int32) (k0 : ClassId) (h0 : Heap) (n0 : Nat) (Z0 : n0 ≤ h0.size) (g_o0 : n0 ≤ o0) (E_o0 : Exa Z h0 o0 c1_) (F_modCount_o0 : Fld Z h0 o0 c6_ "modCount" "I" (.int i0)) (F_elementData_o0 : Fld Z h0 o0 c1_ "elementData" c5_ (.ref o3)) (F_size_o0 : Fld Z h0 o0 c1_ "size" "I" oZ) (E_o1 : Exa Z h0 o1 c2_) (g_o3 : n0 ≤ o3) (V_o3 : Arv Z h0 o3 k0 (.object c3_) (2 : Int32) [] .null) (Ov_k0 : Ovr Z k0 c3_) :
    MetFree l y19_ (head1 (Jvm.Cond.code y19_ jdk_38_method_25_code 2 (some .boolean) :: ws) (rM_ 1 0 0 15)) (fun a U => a = #[(.ref o0), (.ref o1)] ∧ Z.Warmed39 U.vm ∧ U.heap = h0) (fun _ _ _ _ _ => True) (fun _ U o U' => ∃ v L, o = .returned v ∧ Q22_37 Z o0 o1 o3 i0 k0 h0 n0 v U'.heap L ∧ FrameEnd U o U' L (rM_ 1 0 0 15).cells (rM_ 1 0 0 15).slots) := by
  refine MetFree.of_bodySF (plainFor_of_name pn_22) hisR ?_
  intro p e s m args below meth c s₁ Bd hml0 hP hK
  obtain ⟨rfl, hZ, hh⟩ := hP
  have hx := Bd.exec
  have hby := Bd.bytes
  have hml : c.maxLocals = 2 := hml0
  have hown : s.vm.findClass c1_ = some m.cls := findClass_of_methodNamed Bd.named
  have hnm := (name_of_methodNamed Bd.named Bd.method).1
  have X0 : Stand p l e (rM_ 1 0 0 15) s m #[(.ref o0), (.ref o1)] below meth c s₁ [] 0 0 := Stand.of_body Bd
  have e0 : s₁.heap = h0 := by rw [← hh, Bd.state]; rfl
  have N0 := Fr.nil n0
  have K0 : Keep h0 h0 [o0, o3] := Keep.refl h0 _
  change own_Go p e below (own_Post s (Q22_37 Z o0 o1 o3 i0 k0 h0 n0) (rM_ 1 0 0 15).cells (rM_ 1 0 0 15).slots) (s₁.setTop (entryFrame m #[(.ref o0), (.ref o1)] 2))
  refine own_by (fun t k => castTop (ef_22 m o0 o1) k) ?_
  show own_Go p e below _ (s₁.setTop (mkF m 0 #[rv o0, rv o1] []))
  refine own_by (B := s₁.setTop (mkF m 2 #[rv o0, rv o1] [(.ref o0), (.ref o0)])) (fun t k => ?_) ?_
  · refine XS.aloadN X0.here hx rfl (hb hby d22_0) rfl rfl ?_
    refine XS.dup X0.here hx rfl (hb hby d22_1) rfl rfl ?_
    exact k
  refine own_c1 (getF X0 hx hZ hown (host := "") (Or.inl (hW hw 153 rfl)) (Via.of (hW hw 154 rfl)) e0 F_modCount_o0 rfl rfl (hb hby d22_2)) fun T1 X1 e1 => ?_
  show own_Go p e below _ (T1.setTop (mkF m 5 #[rv o0, rv o1] [(.int i0), (.ref o0)]))
  refine own_by (B := T1.setTop (mkF m 7 #[rv o0, rv o1] [(.int (i0 + (1 : Int32))), (.ref o0)])) (fun t k => ?_) ?_
  · refine XS.iconst X1.here hx rfl (hb hby d22_5) ?_
    refine XS.iadd X1.here hx rfl (hb hby d22_6) rfl ?_
    show Steps p.tables e below (T1.setTop (mkF m 7 #[rv o0, rv o1] [(.int (i0 + (1 : Int32))), (.ref o0)])) _
    exact k
  refine own_c2 (putF X1 hx hZ hown (host := "") (Or.inl (hW hw 153 rfl)) (Via.of (hW hw 154 rfl)) e1 F_modCount_o0 E_o0 (Or.inl (hW hw 108 rfl)) (hW hw 89 rfl) (ty := .int) dE_ rfl rfl rfl rfl (hb hby d22_7)) fun T2 h2 X2 e2 W2 => ?_
  replace F_modCount_o0 := F_modCount_o0.same W2
  have nx1 : o3 ≠ o0 := (Ne.symm (own_nev E_o0 (hW hw 89 rfl) V_o3))
  replace E_o0 := E_o0.wr W2
  replace F_elementData_o0 := F_elementData_o0.other W2 (Or.inr (sn0 hw))
  replace F_size_o0 := F_size_o0.other W2 (Or.inr (sn1 hw))
  replace E_o1 := E_o1.wr W2
  replace V_o3 := V_o3.other W2 nx1
  replace K0 := K0.wr W2 (Or.inl (List.mem_of_getElem? (i := 0) rfl))
  replace Z0 := Nat.le_trans Z0 (Keep.of_wr W2).1
  replace N0 := Fr.snoc X2 N0 g_o0
  show own_Go p e below _ (T2.setTop (mkF m 10 #[rv o0, rv o1] []))
  refine own_by (B := T2.setTop (mkF m 13 #[rv o0, rv o1] [(.ref o0), (.ref o1), (.ref o0)])) (fun t k => ?_) ?_
  · refine XS.aloadN X2.here hx rfl (hb hby d22_10) rfl rfl ?_
    refine XS.aloadN X2.here hx rfl (hb hby d22_11) rfl rfl ?_
    refine XS.aloadN X2.here hx rfl (hb hby d22_12) rfl rfl ?_
    exact k
  refine own_c1 (getF X2 hx hZ hown (host := "") (Or.inl (hW hw 110 rfl)) Via.refl e2 F_elementData_o0 rfl rfl (hb hby d22_13)) fun T3 X3 e3 => ?_
  show own_Go p e below _ (T3.setTop (mkF m 16 #[rv o0, rv o1] [(.ref o3), (.ref o1), (.ref o0)]))
  refine own_by (B := T3.setTop (mkF m 17 #[rv o0, rv o1] [(.ref o0), (.ref o3), (.ref o1), (.ref o0)])) (fun t k => ?_) ?_
  · refine XS.aloadN X3.here hx rfl (hb hby d22_16) rfl rfl ?_
    exact k
  refine own_c1 (getF X3 hx hZ hown (host := "") (Or.inl (hW hw 125 rfl)) Via.refl e3 F_size_o0 rfl rfl (hb hby d22_17)) fun T4 X4 e4 => ?_
  show own_Go p e below _ (T4.setTop (mkF m 20 #[rv o0, rv o1] [oZ, (.ref o3), (.ref o1), (.ref o0)]))
  refine own_cc (own_callP X4 hx hZ (y := y18_) hown (hW hw 155 rfl) (hW hw 156 rfl) (hW hw 90 rfl) (hW hw 159 rfl) (hW hw 157 rfl) (hW hw 89 rfl) dE_ (rm23_36 l Z a0 hw [] o0 o1 o3 (i0 + (1 : Int32)) (0 : Int32) k0 h2 n0 Z0 g_o0 E_o0 F_modCount_o0 F_elementData_o0 F_size_o0 E_o1 g_o3 V_o3 Ov_k0) e4 0 dE_ dE_ dE_ dE_ rfl (by rw [hml]; rfl) o0 E_o0 [(.ref o1), (.ref o3), oZ] [] rfl (lenOf pd_13 rfl) rfl (by show 2 * 0 + _ ≤ _; exact Nat.le_of_eq rfl) (hb hby d22_20)) fun T6 L6 v6 X6 hQ6 => ?_
  obtain ⟨rfl, N6, K6, V_o3', E_o0', F_modCount_o0', F_elementData_o0', F_size_o0'⟩ := hQ6
  replace N0 := Fr.app N0 N6
  replace E_o0 := E_o0.keep K6
  replace E_o1 := E_o1.keep K6
  replace K0 := K0.trans K6 (allS (Or.inl (List.mem_of_getElem? (i := 1) rfl)) (allS (Or.inl (List.mem_of_getElem? (i := 0) rfl)) all0))
  replace Z0 := Nat.le_trans Z0 K6.1
  have V_o3 := V_o3'
  replace E_o0 := E_o0'
  have F_modCount_o0 := F_modCount_o0'
  have F_elementData_o0 := F_elementData_o0'
  have F_size_o0 := F_size_o0'
  show own_Go p e below _ (T6.setTop (mkF m 23 #[rv o0, rv o1] []))
  refine own_by (B := T6.setTop (mkF m 24 #[rv o0, rv o1] [(.int (1 : Int32))])) (fun t k => ?_) ?_
  · refine XS.iconst X6.here hx rfl (hb hby d22_23) ?_
    exact k
  exact own_retN X6 Bd.notSynchronized hx (t := .boolean) Bd.returns (by simp) (hb hby d22_24) ⟨rfl, N0, K0, E_o0, F_modCount_o0, F_elementData_o0, F_size_o0, V_o3⟩ dE_ dE_

def Q18_38 (Z : State) (o0 o1 : Addr) (o3 o4 : Addr) (o5 o6 o8 : Addr) (i6 : Int32) (k0 : ClassId) (j0 j1 j2 : Int64) (k1 : ClassId) (j3 j4 j5 : Int64) (k2 : ClassId) (i7 i8 i9 : Int32) (k3 : ClassId) (i10 i11 i12 : Int32) (k5 : ClassId) (h0 : Heap) (n0 : Nat) (v : Option Value) (h : Heap) (L : List Loc) : Prop := ∃ b5 : Addr, v = none ∧ Fr n0 L ∧ Keep h0 h [o8, o1] ∧ Arv Z h o8 k5 (.object c3_) (2 : Int32) [(.ref b5)] .null ∧ Exa Z h o1 c1_ ∧ Fld Z h o1 c6_ "modCount" "I" (.int (i6 + (1 : Int32))) ∧ Fld Z h o1 c1_ "elementData" c5_ (.ref o8) ∧ Fld Z h o1 c1_ "size" "I" (.int (1 : Int32)) ∧ Exa Z h b5 c2_ ∧ Fld Z h b5 c2_ "price" "J" (.long j2) ∧ Fld Z h b5 c2_ "size" "J" (.long j5) ∧ h0.size ≤ b5
set_option maxRecDepth 65536 in
set_option maxHeartbeats 40000000 in
theorem rm18_38 (l : Launch) (Z : State) (a0 : Array Value) (hw : oW_ a0 Z) (ws : List Jvm.Cond) (o0 o1 : Addr) (o3 o4 : Addr) (o5 o6 o8 : Addr) (i6 : Int32) (k0 : ClassId) (j0 j1 j2 : Int64) (k1 : ClassId) (j3 j4 j5 : Int64) (k2 : ClassId) (i7 i8 i9 : Int32) (k3 : ClassId) (i10 i11 i12 : Int32) (k5 : ClassId) (h0 : Heap) (n0 : Nat) (Z0 : n0 ≤ h0.size) (E_o0 : Exa Z h0 o0 c0_) (F_prices_o0 : Fld Z h0 o0 c0_ "prices" "[J" (.ref o3)) (F_sizes_o0 : Fld Z h0 o0 c0_ "sizes" "[J" (.ref o4)) (F_left_o0 : Fld Z h0 o0 c0_ "left" "[I" (.ref o5)) (F_right_o0 : Fld Z h0 o0 c0_ "right" "[I" (.ref o6)) (g_o1 : n0 ≤ o1) (E_o1 : Exa Z h0 o1 c1_) (F_modCount_o1 : Fld Z h0 o1 c6_ "modCount" "I" (.int i6)) (F_elementData_o1 : Fld Z h0 o1 c1_ "elementData" c5_ (.ref o8)) (F_size_o1 : Fld Z h0 o1 c1_ "size" "I" oZ) (V_o3 : Arv Z h0 o3 k0 .long (8 : Int32) [(.long j0), (.long j1), (.long j2)] oY) (V_o4 : Arv Z h0 o4 k1 .long (8 : Int32) [(.long j3), (.long j4), (.long j5)] oY) (V_o5 : Arv Z h0 o5 k2 .int (8 : Int32) [(.int i7), (.int i8), (.int i9)] oZ) (V_o6 : Arv Z h0 o6 k3 .int (8 : Int32) [(.int i10), (.int i11), (.int i12)] oZ) (g_o8 : n0 ≤ o8) (V_o8 : Arv Z h0 o8 k5 (.object c3_) (2 : Int32) [] .null) (Ov_k5 : Ovr Z k5 c3_) (hp0 : i9 = (0 : Int32)) (ne_o3_o8 : o3 ≠ o8) (ne_o4_o8 : o4 ≠ o8) (ne_o5_o8 : o5 ≠ o8) (ne_o6_o8 : o6 ≠ o8) (hp1 : i12 = (0 : Int32)) :
    MetFree l y10_ (head1 (Jvm.Cond.code y10_ prog_3_method_7_code 3 none :: ws) (rM_ 3 1 2 42)) (fun a U => a = #[(.ref o0), (.int (2 : Int32)), (.ref o1)] ∧ Z.Warmed39 U.vm ∧ U.heap = h0) (fun _ _ _ _ _ => True) (fun _ U o U' => ∃ v L, o = .returned v ∧ Q18_38 Z o0 o1 o3 o4 o5 o6 o8 i6 k0 j0 j1 j2 k1 j3 j4 j5 k2 i7 i8 i9 k3 i10 i11 i12 k5 h0 n0 v U'.heap L ∧ FrameEnd U o U' L (rM_ 3 1 2 42).cells (rM_ 3 1 2 42).slots) := by
  refine MetFree.of_bodySF (plainFor_of_name pn_18) hisR ?_
  intro p e s m args below meth c s₁ Bd hml0 hP hK
  obtain ⟨rfl, hZ, hh⟩ := hP
  have hx := Bd.exec
  have hby := Bd.bytes
  have hml : c.maxLocals = 3 := hml0
  have hown : s.vm.findClass c0_ = some m.cls := findClass_of_methodNamed Bd.named
  have hnm := (name_of_methodNamed Bd.named Bd.method).1
  have X0 : Stand p l e (rM_ 3 1 2 42) s m #[(.ref o0), (.int (2 : Int32)), (.ref o1)] below meth c s₁ [] 0 0 := Stand.of_body Bd
  have e0 : s₁.heap = h0 := by rw [← hh, Bd.state]; rfl
  have N0 := Fr.nil n0
  have K0 : Keep h0 h0 [o8, o1] := Keep.refl h0 _
  change own_Go p e below (own_Post s (Q18_38 Z o0 o1 o3 o4 o5 o6 o8 i6 k0 j0 j1 j2 k1 j3 j4 j5 k2 i7 i8 i9 k3 i10 i11 i12 k5 h0 n0) (rM_ 3 1 2 42).cells (rM_ 3 1 2 42).slots) (s₁.setTop (entryFrame m #[(.ref o0), (.int (2 : Int32)), (.ref o1)] 3))
  refine own_by (fun t k => castTop (ef_18 m o0 (2 : Int32) o1) k) ?_
  show own_Go p e below _ (s₁.setTop (mkF m 0 #[rv o0, iv (2 : Int32), rv o1] []))
  refine own_by (B := s₁.setTop (mkF m 6 #[rv o0, iv (2 : Int32), rv o1] [(.ref o0), (.ref o0)])) (fun t k => ?_) ?_
  · refine XS.iloadN X0.here hx rfl (hb hby d18_0) rfl ?_
    refine XS.ifNo X0.here hx rfl (hb hby d18_1) rfl ((if0 _ _).trans (feq (by decide : ¬ ((2 : Int32) = (0 : Int32)))).1) ?_
    show Steps p.tables e below (s₁.setTop (mkF m 4 #[rv o0, iv (2 : Int32), rv o1] [])) _
    refine XS.aloadN X0.here hx rfl (hb hby d18_4) rfl rfl ?_
    refine XS.aloadN X0.here hx rfl (hb hby d18_5) rfl rfl ?_
    exact k
  refine own_c1 (getF X0 hx hZ hown (host := "") (Or.inl (hW hw 16 rfl)) Via.refl e0 F_left_o0 rfl rfl (hb hby d18_6)) fun T1 X1 e1 => ?_
  show own_Go p e below _ (T1.setTop (mkF m 9 #[rv o0, iv (2 : Int32), rv o1] [(.ref o5), (.ref o0)]))
  refine own_by (B := T1.setTop (mkF m 12 #[rv o0, iv (2 : Int32), rv o1] [(.ref o1), (.int i9), (.ref o0)])) (fun t k => ?_) ?_
  · refine XS.iloadN X1.here hx rfl (hb hby d18_9) rfl ?_
    obtain ⟨cl2, Ar2, q2, S2, N2, H2, G2⟩ := id V_o5
    have hin2 : ¬ ((2 : Int32) < 0 ∨ cl2.slots.size ≤ ((2 : Int32)).toNatClampNeg) := inb_of S2 ⟨by decide, by decide⟩
    have hat2 : cl2.slots[((2 : Int32)).toNatClampNeg]? = some (.int i9) := H2.at hin2 rfl
    refine X1.iaload hx (j := (2 : Int32)) (v := (.int i9)) (by rw [show T1.heap = h0 from e1]; exact Ar2.1) (State.isArrayOf_alike hZ.alike Ar2.2.1) Ar2.2.2 hin2 hat2 (g := (mkF m 10 #[rv o0, iv (2 : Int32), rv o1] [(.int (2 : Int32)), (.ref o5), (.ref o0)])) rfl rfl (hb hby d18_10) _ ?_
    show Steps p.tables e below (T1.setTop (mkF m 11 #[rv o0, iv (2 : Int32), rv o1] [(.int i9), (.ref o0)])) _
    refine XS.aloadN X1.here hx rfl (hb hby d18_11) rfl rfl ?_
    exact k
  refine own_cc (own_callP X1 hx hZ (y := y10_) hown (hW hw 112 rfl) (hW hw 113 rfl) (hW hw 3 rfl) (hW hw 115 rfl) (hW hw 114 rfl) (hW hw 2 rfl) dE_ (rm18_6 l Z a0 hw [] o0 i9 o1 h0 n0 Z0 hp0) e1 0 dE_ dE_ dE_ dE_ rfl (by rw [hml]; rfl) o0 E_o0 [(.int i9), (.ref o1)] [] rfl (lenOf pd_10 rfl) rfl (by show 2 * 0 + _ ≤ _; exact Nat.le_of_eq rfl) (hb hby d18_12)) fun T4 L4 v4 X4 hQ4 => ?_
  obtain ⟨rfl, N4, e4⟩ := hQ4
  replace N0 := Fr.app N0 N4
  show own_Go p e below _ (T4.setTop (mkF m 15 #[rv o0, iv (2 : Int32), rv o1] []))
  refine own_by (B := T4.setTop (mkF m 16 #[rv o0, iv (2 : Int32), rv o1] [(.ref o1)])) (fun t k => ?_) ?_
  · refine XS.aloadN X4.here hx rfl (hb hby d18_15) rfl rfl ?_
    exact k
  obtain ⟨T5, h5, X5, e5, E5, A5, D5, -, st5⟩ := newO X4 hx hZ hown (hW hw 129 rfl) (hW hw 130 rfl) (hW hw 131 rfl) e4 (g := (mkF m 16 #[rv o0, iv (2 : Int32), rv o1] [(.ref o1)])) rfl (hb hby d18_16) dE_ dE_
  obtain ⟨b5, g5⟩ : ∃ z, z = h0.size := ⟨_, rfl⟩
  rw [← g5] at A5 D5 st5
  have g_b5 : n0 ≤ b5 := Nat.le_trans Z0 (Nat.le_of_eq g5.symm)
  have sz_b5 : h0.size ≤ b5 := Nat.le_trans K0.1 (Nat.le_of_eq g5.symm)
  have ne_o0_b5 : o0 ≠ b5 := Nat.ne_of_lt (Nat.lt_of_lt_of_le E_o0.lt (Nat.le_of_eq g5.symm))
  have ne_o1_b5 : o1 ≠ b5 := Nat.ne_of_lt (Nat.lt_of_lt_of_le E_o1.lt (Nat.le_of_eq g5.symm))
  have ne_o3_b5 : o3 ≠ b5 := Nat.ne_of_lt (Nat.lt_of_lt_of_le V_o3.lt (Nat.le_of_eq g5.symm))
  have ne_o4_b5 : o4 ≠ b5 := Nat.ne_of_lt (Nat.lt_of_lt_of_le V_o4.lt (Nat.le_of_eq g5.symm))
  have ne_o5_b5 : o5 ≠ b5 := Nat.ne_of_lt (Nat.lt_of_lt_of_le V_o5.lt (Nat.le_of_eq g5.symm))
  have ne_o6_b5 : o6 ≠ b5 := Nat.ne_of_lt (Nat.lt_of_lt_of_le V_o6.lt (Nat.le_of_eq g5.symm))
  have ne_o8_b5 : o8 ≠ b5 := Nat.ne_of_lt (Nat.lt_of_lt_of_le V_o8.lt (Nat.le_of_eq g5.symm))
  replace E_o0 := E_o0.ext E5
  replace F_prices_o0 := F_prices_o0.ext E5
  replace F_sizes_o0 := F_sizes_o0.ext E5
  replace F_left_o0 := F_left_o0.ext E5
  replace F_right_o0 := F_right_o0.ext E5
  replace E_o1 := E_o1.ext E5
  replace F_modCount_o1 := F_modCount_o1.ext E5
  replace F_elementData_o1 := F_elementData_o1.ext E5
  replace F_size_o1 := F_size_o1.ext E5
  replace V_o3 := V_o3.ext E5
  replace V_o4 := V_o4.ext E5
  replace V_o5 := V_o5.ext E5
  replace V_o6 := V_o6.ext E5
  replace V_o8 := V_o8.ext E5
  replace K0 := K0.ext E5
  replace Z0 := Nat.le_trans Z0 E5.1
  have E_b5 := A5
  have F_price_b5 : Fld Z h5 b5 c2_ "price" "J" oY := D5 (Or.inr (hW hw 142 rfl)) (ty := .long) dE_
  have F_size_b5 : Fld Z h5 b5 c2_ "size" "J" oY := D5 (Or.inr (hW hw 144 rfl)) (ty := .long) dE_
  refine own_by st5 ?_
  show own_Go p e below _ (T5.setTop (mkF m 19 #[rv o0, iv (2 : Int32), rv o1] [(.ref b5), (.ref o1)]))
  refine own_by (B := T5.setTop (mkF m 21 #[rv o0, iv (2 : Int32), rv o1] [(.ref o0), (.ref b5), (.ref b5), (.ref o1)])) (fun t k => ?_) ?_
  · refine XS.dup X5.here hx rfl (hb hby d18_19) rfl rfl ?_
    refine XS.aloadN X5.here hx rfl (hb hby d18_20) rfl rfl ?_
    exact k
  refine own_c1 (getF X5 hx hZ hown (host := "") (Or.inl (hW hw 11 rfl)) Via.refl e5 F_prices_o0 rfl rfl (hb hby d18_21)) fun T6 X6 e6 => ?_
  show own_Go p e below _ (T6.setTop (mkF m 24 #[rv o0, iv (2 : Int32), rv o1] [(.ref o3), (.ref b5), (.ref b5), (.ref o1)]))
  refine own_by (B := T6.setTop (mkF m 27 #[rv o0, iv (2 : Int32), rv o1] [(.ref o0), (.long j2), (.ref b5), (.ref b5), (.ref o1)])) (fun t k => ?_) ?_
  · refine XS.iloadN X6.here hx rfl (hb hby d18_24) rfl ?_
    obtain ⟨cl7, Ar7, q7, S7, N7, H7, G7⟩ := id V_o3
    have hin7 : ¬ ((2 : Int32) < 0 ∨ cl7.slots.size ≤ ((2 : Int32)).toNatClampNeg) := inb_of S7 ⟨by decide, by decide⟩
    have hat7 : cl7.slots[((2 : Int32)).toNatClampNeg]? = some (.long j2) := H7.at hin7 rfl
    refine X6.laload hx (j := (2 : Int32)) (v := (.long j2)) (by rw [show T6.heap = h5 from e6]; exact Ar7.1) (State.isArrayOf_alike hZ.alike Ar7.2.1) Ar7.2.2 hin7 hat7 (g := (mkF m 25 #[rv o0, iv (2 : Int32), rv o1] [(.int (2 : Int32)), (.ref o3), (.ref b5), (.ref b5), (.ref o1)])) rfl rfl (hb hby d18_25) _ ?_
    show Steps p.tables e below (T6.setTop (mkF m 26 #[rv o0, iv (2 : Int32), rv o1] [(.long j2), (.ref b5), (.ref b5), (.ref o1)])) _
    refine XS.aloadN X6.here hx rfl (hb hby d18_26) rfl rfl ?_
    exact k
  refine own_c1 (getF X6 hx hZ hown (host := "") (Or.inl (hW hw 13 rfl)) Via.refl e6 F_sizes_o0 rfl rfl (hb hby d18_27)) fun T8 X8 e8 => ?_
  show own_Go p e below _ (T8.setTop (mkF m 30 #[rv o0, iv (2 : Int32), rv o1] [(.ref o4), (.long j2), (.ref b5), (.ref b5), (.ref o1)]))
  refine own_by (B := T8.setTop (mkF m 32 #[rv o0, iv (2 : Int32), rv o1] [(.long j5), (.long j2), (.ref b5), (.ref b5), (.ref o1)])) (fun t k => ?_) ?_
  · refine XS.iloadN X8.here hx rfl (hb hby d18_30) rfl ?_
    obtain ⟨cl9, Ar9, q9, S9, N9, H9, G9⟩ := id V_o4
    have hin9 : ¬ ((2 : Int32) < 0 ∨ cl9.slots.size ≤ ((2 : Int32)).toNatClampNeg) := inb_of S9 ⟨by decide, by decide⟩
    have hat9 : cl9.slots[((2 : Int32)).toNatClampNeg]? = some (.long j5) := H9.at hin9 rfl
    refine X8.laload hx (j := (2 : Int32)) (v := (.long j5)) (by rw [show T8.heap = h5 from e8]; exact Ar9.1) (State.isArrayOf_alike hZ.alike Ar9.2.1) Ar9.2.2 hin9 hat9 (g := (mkF m 31 #[rv o0, iv (2 : Int32), rv o1] [(.int (2 : Int32)), (.ref o4), (.long j2), (.ref b5), (.ref b5), (.ref o1)])) rfl rfl (hb hby d18_31) _ ?_
    show Steps p.tables e below (T8.setTop (mkF m 32 #[rv o0, iv (2 : Int32), rv o1] [(.long j5), (.long j2), (.ref b5), (.ref b5), (.ref o1)])) _
    exact k
  refine own_cc (own_callI X8 hx hZ (y := y17_) rfl hown (hW hw 132 rfl) (hW hw 133 rfl) (hW hw 131 rfl) (hW hw 134 rfl) dE_ (rm20_16 l Z a0 hw [] b5 j2 j5 (0 : Int64) (0 : Int64) h5 n0 Z0 g_b5 E_b5 F_price_b5 F_size_b5) e8 2 dE_ dE_ dE_ dE_ rfl (by rw [hml]; rfl) b5 [(.long j2), (.long j5)] [(.ref b5), (.ref o1)] rfl (lenOf pd_2 rfl) rfl (by show 2 * 0 + _ ≤ _; exact Nat.le_of_eq rfl) (hb hby d18_32)) fun T11 L11 v11 X11 hQ11 => ?_
  obtain ⟨rfl, N11, K11, E_b5', F_price_b5', F_size_b5'⟩ := hQ11
  replace N0 := Fr.app N0 N11
  replace E_o0 := E_o0.keep K11
  replace F_prices_o0 := F_prices_o0.keep K11 (ninS ne_o0_b5 nin0)
  replace F_sizes_o0 := F_sizes_o0.keep K11 (ninS ne_o0_b5 nin0)
  replace F_left_o0 := F_left_o0.keep K11 (ninS ne_o0_b5 nin0)
  replace F_right_o0 := F_right_o0.keep K11 (ninS ne_o0_b5 nin0)
  replace E_o1 := E_o1.keep K11
  replace F_modCount_o1 := F_modCount_o1.keep K11 (ninS ne_o1_b5 nin0)
  replace F_elementData_o1 := F_elementData_o1.keep K11 (ninS ne_o1_b5 nin0)
  replace F_size_o1 := F_size_o1.keep K11 (ninS ne_o1_b5 nin0)
  replace V_o3 := V_o3.keep K11 (ninS ne_o3_b5 nin0)
  replace V_o4 := V_o4.keep K11 (ninS ne_o4_b5 nin0)
  replace V_o5 := V_o5.keep K11 (ninS ne_o5_b5 nin0)
  replace V_o6 := V_o6.keep K11 (ninS ne_o6_b5 nin0)
  replace V_o8 := V_o8.keep K11 (ninS ne_o8_b5 nin0)
  replace E_b5 := E_b5.keep K11
  replace K0 := K0.trans K11 (allS (Or.inr sz_b5) all0)
  replace Z0 := Nat.le_trans Z0 K11.1
  replace E_b5 := E_b5'
  have F_price_b5 := F_price_b5'
  have F_size_b5 := F_size_b5'
  show own_Go p e below _ (T11.setTop (mkF m 35 #[rv o0, iv (2 : Int32), rv o1] [(.ref b5), (.ref o1)]))
  refine own_cc (own_callF X11 hx hZ (y := y20_) (z := y19_) hown (hW hw 145 rfl) (hW hw 146 rfl) (hW hw 147 rfl) (hW hw 148 rfl) (hW hw 149 rfl) (hW hw 150 rfl) (hW hw 151 rfl) (hW hw 123 rfl) (hW hw 90 rfl) (hW hw 152 rfl) dE_ (rm22_37 l Z a0 hw [] o1 b5 o8 i6 k5 T11.heap n0 Z0 g_o1 E_o1 F_modCount_o1 F_elementData_o1 F_size_o1 E_b5 g_o8 V_o8 Ov_k5) (rfl : T11.heap = _) 0 dE_ dE_ dE_ dE_ rfl (by rw [hml]; rfl) o1 E_o1 [(.ref b5)] [] rfl (lenOf pd_12 rfl) rfl (by show 2 * 0 + _ ≤ _; exact Nat.le_of_eq rfl) (hb hby d18_35)) fun T13 L13 v13 X13 hQ13 => ?_
  obtain ⟨rfl, N13, K13, E_o1', F_modCount_o1', F_elementData_o1', F_size_o1', V_o8'⟩ := hQ13
  replace N0 := Fr.app N0 N13
  have nx1 : o0 ≠ o1 := (ne_exa E_o0 E_o1 dE_)
  have nx2 : o0 ≠ o8 := (own_nev E_o0 (hW hw 2 rfl) V_o8)
  have nx3 : o3 ≠ o1 := (Ne.symm (own_nev E_o1 (hW hw 89 rfl) V_o3))
  have nx4 : o4 ≠ o1 := (Ne.symm (own_nev E_o1 (hW hw 89 rfl) V_o4))
  have nx5 : o5 ≠ o1 := (Ne.symm (own_nev E_o1 (hW hw 89 rfl) V_o5))
  have nx6 : o6 ≠ o1 := (Ne.symm (own_nev E_o1 (hW hw 89 rfl) V_o6))
  replace E_o0 := E_o0.keep K13
  replace F_prices_o0 := F_prices_o0.keep K13 (ninS nx1 (ninS nx2 nin0))
  replace F_sizes_o0 := F_sizes_o0.keep K13 (ninS nx1 (ninS nx2 nin0))
  replace F_left_o0 := F_left_o0.keep K13 (ninS nx1 (ninS nx2 nin0))
  replace F_right_o0 := F_right_o0.keep K13 (ninS nx1 (ninS nx2 nin0))
  replace E_o1 := E_o1.keep K13
  replace V_o3 := V_o3.keep K13 (ninS nx3 (ninS ne_o3_o8 nin0))
  replace V_o4 := V_o4.keep K13 (ninS nx4 (ninS ne_o4_o8 nin0))
  replace V_o5 := V_o5.keep K13 (ninS nx5 (ninS ne_o5_o8 nin0))
  replace V_o6 := V_o6.keep K13 (ninS nx6 (ninS ne_o6_o8 nin0))
  replace E_b5 := E_b5.keep K13
  replace F_price_b5 := F_price_b5.keep K13 (ninS (Ne.symm ne_o1_b5) (ninS (Ne.symm ne_o8_b5) nin0))
  replace F_size_b5 := F_size_b5.keep K13 (ninS (Ne.symm ne_o1_b5) (ninS (Ne.symm ne_o8_b5) nin0))
  replace K0 := K0.trans K13 (allS (Or.inl (List.mem_of_getElem? (i := 1) rfl)) (allS (Or.inl (List.mem_of_getElem? (i := 0) rfl)) all0))
  replace Z0 := Nat.le_trans Z0 K13.1
  replace E_o1 := E_o1'
  have F_modCount_o1 := F_modCount_o1'
  have F_elementData_o1 := F_elementData_o1'
  have F_size_o1 := F_size_o1'
  have V_o8 := V_o8'
  show own_Go p e below _ (T13.setTop (mkF m 40 #[rv o0, iv (2 : Int32), rv o1] [(.int (1 : Int32))]))
  refine own_by (B := T13.setTop (mkF m 43 #[rv o0, iv (2 : Int32), rv o1] [(.ref o0), (.ref o0)])) (fun t k => ?_) ?_
  · refine XS.pop X13.here hx rfl (hb hby d18_40) rfl rfl ?_
    show Steps p.tables e below (T13.setTop (mkF m 41 #[rv o0, iv (2 : Int32), rv o1] [])) _
    refine XS.aloadN X13.here hx rfl (hb hby d18_41) rfl rfl ?_
    refine XS.aloadN X13.here hx rfl (hb hby d18_42) rfl rfl ?_
    exact k
  refine own_c1 (getF X13 hx hZ hown (host := "") (Or.inl (hW hw 18 rfl)) Via.refl rfl F_right_o0 rfl rfl (hb hby d18_43)) fun T14 X14 e14 => ?_
  show own_Go p e below _ (T14.setTop (mkF m 46 #[rv o0, iv (2 : Int32), rv o1] [(.ref o6), (.ref o0)]))
  refine own_by (B := T14.setTop (mkF m 49 #[rv o0, iv (2 : Int32), rv o1] [(.ref o1), (.int i12), (.ref o0)])) (fun t k => ?_) ?_
  · refine XS.iloadN X14.here hx rfl (hb hby d18_46) rfl ?_
    obtain ⟨cl15, Ar15, q15, S15, N15, H15, G15⟩ := id V_o6
    have hin15 : ¬ ((2 : Int32) < 0 ∨ cl15.slots.size ≤ ((2 : Int32)).toNatClampNeg) := inb_of S15 ⟨by decide, by decide⟩
    have hat15 : cl15.slots[((2 : Int32)).toNatClampNeg]? = some (.int i12) := H15.at hin15 rfl
    refine X14.iaload hx (j := (2 : Int32)) (v := (.int i12)) (by rw [show T14.heap = T13.heap from e14]; exact Ar15.1) (State.isArrayOf_alike hZ.alike Ar15.2.1) Ar15.2.2 hin15 hat15 (g := (mkF m 47 #[rv o0, iv (2 : Int32), rv o1] [(.int (2 : Int32)), (.ref o6), (.ref o0)])) rfl rfl (hb hby d18_47) _ ?_
    show Steps p.tables e below (T14.setTop (mkF m 48 #[rv o0, iv (2 : Int32), rv o1] [(.int i12), (.ref o0)])) _
    refine XS.aloadN X14.here hx rfl (hb hby d18_48) rfl rfl ?_
    exact k
  refine own_cc (own_callP X14 hx hZ (y := y10_) hown (hW hw 112 rfl) (hW hw 113 rfl) (hW hw 3 rfl) (hW hw 115 rfl) (hW hw 114 rfl) (hW hw 2 rfl) dE_ (rm18_6 l Z a0 hw [] o0 i12 o1 T13.heap n0 Z0 hp1) e14 0 dE_ dE_ dE_ dE_ rfl (by rw [hml]; rfl) o0 E_o0 [(.int i12), (.ref o1)] [] rfl (lenOf pd_10 rfl) rfl (by show 2 * 0 + _ ≤ _; exact Nat.le_of_eq rfl) (hb hby d18_49)) fun T17 L17 v17 X17 hQ17 => ?_
  obtain ⟨rfl, N17, e17⟩ := hQ17
  replace N0 := Fr.app N0 N17
  show own_Go p e below _ (T17.setTop (mkF m 52 #[rv o0, iv (2 : Int32), rv o1] []))
  exact own_retV X17 Bd.notSynchronized hx Bd.returns (hb hby d18_52) (by
      try rw [show T17.heap = T13.heap from e17]
      exact ⟨b5, rfl, N0, K0, V_o8, E_o1, F_modCount_o1, F_elementData_o1, F_size_o1, E_b5, F_price_b5, F_size_b5, sz_b5⟩) dE_ dE_

def Q23_39 (Z : State) (o0 o1 : Addr) (o2 o4 : Addr) (i0 i1 : Int32) (k0 : ClassId) (h0 : Heap) (n0 : Nat) (v : Option Value) (h : Heap) (L : List Loc) : Prop := v = none ∧ Fr n0 L ∧ Keep h0 h [o2, o0] ∧ Arv Z h o2 k0 (.object c3_) (2 : Int32) [(.ref o4), (.ref o1)] .null ∧ Exa Z h o0 c1_ ∧ Fld Z h o0 c6_ "modCount" "I" (.int i0) ∧ Fld Z h o0 c1_ "elementData" c5_ (.ref o2) ∧ Fld Z h o0 c1_ "size" "I" (.int (2 : Int32))
set_option maxRecDepth 65536 in
set_option maxHeartbeats 40000000 in
theorem rm23_39 (l : Launch) (Z : State) (a0 : Array Value) (hw : oW_ a0 Z) (ws : List Jvm.Cond) (o0 o1 : Addr) (o2 o4 : Addr) (i0 i1 : Int32) (k0 : ClassId) (h0 : Heap) (n0 : Nat) (Z0 : n0 ≤ h0.size) (g_o0 : n0 ≤ o0) (E_o0 : Exa Z h0 o0 c1_) (F_modCount_o0 : Fld Z h0 o0 c6_ "modCount" "I" (.int i0)) (F_elementData_o0 : Fld Z h0 o0 c1_ "elementData" c5_ (.ref o2)) (F_size_o0 : Fld Z h0 o0 c1_ "size" "I" (.int i1)) (E_o1 : Exa Z h0 o1 c2_) (g_o2 : n0 ≤ o2) (V_o2 : Arv Z h0 o2 k0 (.object c3_) (2 : Int32) [(.ref o4)] .null) (Ov_k0 : Ovr Z k0 c3_) :
    MetFree l y18_ (head1 (Jvm.Cond.code y18_ jdk_38_method_24_code 4 none :: ws) (rM_ 0 0 0 0)) (fun a U => a = #[(.ref o0), (.ref o1), (.ref o2), (.int (1 : Int32))] ∧ Z.Warmed39 U.vm ∧ U.heap = h0) (fun _ _ _ _ _ => True) (fun _ U o U' => ∃ v L, o = .returned v ∧ Q23_39 Z o0 o1 o2 o4 i0 i1 k0 h0 n0 v U'.heap L ∧ FrameEnd U o U' L (rM_ 0 0 0 0).cells (rM_ 0 0 0 0).slots) := by
  refine MetFree.of_bodySF (plainFor_of_name pn_23) hisR ?_
  intro p e s m args below meth c s₁ Bd hml0 hP hK
  obtain ⟨rfl, hZ, hh⟩ := hP
  have hx := Bd.exec
  have hby := Bd.bytes
  have hml : c.maxLocals = 4 := hml0
  have hown : s.vm.findClass c1_ = some m.cls := findClass_of_methodNamed Bd.named
  have hnm := (name_of_methodNamed Bd.named Bd.method).1
  have X0 : Stand p l e (rM_ 0 0 0 0) s m #[(.ref o0), (.ref o1), (.ref o2), (.int (1 : Int32))] below meth c s₁ [] 0 0 := Stand.of_body Bd
  have e0 : s₁.heap = h0 := by rw [← hh, Bd.state]; rfl
  have N0 := Fr.nil n0
  have K0 : Keep h0 h0 [o2, o0] := Keep.refl h0 _
  change own_Go p e below (own_Post s (Q23_39 Z o0 o1 o2 o4 i0 i1 k0 h0 n0) (rM_ 0 0 0 0).cells (rM_ 0 0 0 0).slots) (s₁.setTop (entryFrame m #[(.ref o0), (.ref o1), (.ref o2), (.int (1 : Int32))] 4))
  refine own_by (fun t k => castTop (ef_23 m o0 o1 o2 (1 : Int32)) k) ?_
  show own_Go p e below _ (s₁.setTop (mkF m 0 #[rv o0, rv o1, rv o2, iv (1 : Int32)] []))
  refine own_by (B := s₁.setTop (mkF m 14 #[rv o0, rv o1, rv o2, iv (1 : Int32)] [(.ref o1), (.int (1 : Int32)), (.ref o2)])) (fun t k => ?_) ?_
  · refine XS.iloadN X0.here hx rfl (hb hby d23_0) rfl ?_
    refine XS.aloadN X0.here hx rfl (hb hby d23_1) rfl rfl ?_
    obtain ⟨cl1, Ar1, -, S1, N1, -, -⟩ := id V_o2
    refine X0.arraylength hx (by rw [show s₁.heap = h0 from e0]; exact Ar1.1) (State.isArrayOf_alike hZ.alike Ar1.2.1) (g := (mkF m 2 #[rv o0, rv o1, rv o2, iv (1 : Int32)] [(.ref o2), (.int (1 : Int32))])) rfl rfl (hb hby d23_2) _ ?_
    rw [len_of S1 N1]
    show Steps p.tables e below (s₁.setTop (mkF m 3 #[rv o0, rv o1, rv o2, iv (1 : Int32)] [(.int (2 : Int32)), (.int (1 : Int32))])) _
    refine XS.icmpYes X0.here hx rfl (pc0 := 3) (pc' := 11) rfl (hb hby d23_3) rfl (feq (by decide : ¬ ((1 : Int32) = (2 : Int32)))).2 dE_ dE_ ?_
    show Steps p.tables e below (s₁.setTop (mkF m 11 #[rv o0, rv o1, rv o2, iv (1 : Int32)] [])) _
    refine XS.aloadN X0.here hx rfl (hb hby d23_11) rfl rfl ?_
    refine XS.iloadN X0.here hx rfl (hb hby d23_12) rfl ?_
    refine XS.aloadN X0.here hx rfl (hb hby d23_13) rfl rfl ?_
    exact k
  replace V_o2 : Arv Z h0 o2 k0 (.object c3_) (2 : Int32) [(.ref o4), .null] .null := V_o2.pad (pad_rep [(.ref o4)] .null 1)
  have nx1 : o0 ≠ o2 := (own_nev E_o0 (hW hw 89 rfl) V_o2)
  obtain ⟨cl2, Ar2, q2, S2, N2, H2, G2⟩ := id V_o2
  have hin2 : ¬ ((1 : Int32) < 0 ∨ cl2.slots.size ≤ ((1 : Int32)).toNatClampNeg) := inb_of S2 ⟨by decide, by decide⟩
  refine own_c2 (stR X0 hx hZ e0 Ar2 (j := (1 : Int32)) hin2 rfl (Sto.ofV Ar2 q2 Ov_k0 (Ins.of_exa E_o1 (hW hw 160 rfl))) rfl rfl (hb hby d23_14)) fun T2 h2 X2 e2 W2 => ?_
  replace V_o2 : Arv Z h2 o2 k0 (.object c3_) (2 : Int32) [(.ref o4), (.ref o1)] .null := Arv.set Ar2 q2 S2 N2 H2 G2 rfl W2 1 rfl nB_
  replace E_o0 := E_o0.wr W2
  replace F_modCount_o0 := F_modCount_o0.other W2 (Or.inl nx1)
  replace F_elementData_o0 := F_elementData_o0.other W2 (Or.inl nx1)
  replace F_size_o0 := F_size_o0.other W2 (Or.inl nx1)
  replace E_o1 := E_o1.wr W2
  replace K0 := K0.wr W2 (Or.inl (List.mem_of_getElem? (i := 0) rfl))
  replace Z0 := Nat.le_trans Z0 (Keep.of_wr W2).1
  replace N0 := Fr.snoc X2 N0 g_o2
  show own_Go p e below _ (T2.setTop (mkF m 15 #[rv o0, rv o1, rv o2, iv (1 : Int32)] []))
  refine own_by (B := T2.setTop (mkF m 19 #[rv o0, rv o1, rv o2, iv (1 : Int32)] [(.int (2 : Int32)), (.ref o0)])) (fun t k => ?_) ?_
  · refine XS.aloadN X2.here hx rfl (hb hby d23_15) rfl rfl ?_
    refine XS.iloadN X2.here hx rfl (hb hby d23_16) rfl ?_
    refine XS.iconst X2.here hx rfl (hb hby d23_17) ?_
    refine XS.iadd X2.here hx rfl (hb hby d23_18) rfl ?_
    show Steps p.tables e below (T2.setTop (mkF m 19 #[rv o0, rv o1, rv o2, iv (1 : Int32)] [(.int (2 : Int32)), (.ref o0)])) _
    exact k
  refine own_c2 (putF X2 hx hZ hown (host := "") (Or.inl (hW hw 125 rfl)) Via.refl e2 F_size_o0 E_o0 (Or.inl (hW hw 126 rfl)) (hW hw 89 rfl) (ty := .int) dE_ rfl rfl rfl rfl (hb hby d23_19)) fun T3 h3 X3 e3 W3 => ?_
  replace F_size_o0 := F_size_o0.same W3
  replace E_o0 := E_o0.wr W3
  replace F_modCount_o0 := F_modCount_o0.other W3 (Or.inr (sn46 hw))
  replace F_elementData_o0 := F_elementData_o0.other W3 (Or.inr (sn47 hw))
  replace E_o1 := E_o1.wr W3
  replace V_o2 := V_o2.other W3 (Ne.symm nx1)
  replace K0 := K0.wr W3 (Or.inl (List.mem_of_getElem? (i := 1) rfl))
  replace Z0 := Nat.le_trans Z0 (Keep.of_wr W3).1
  replace N0 := Fr.snoc X3 N0 g_o0
  show own_Go p e below _ (T3.setTop (mkF m 22 #[rv o0, rv o1, rv o2, iv (1 : Int32)] []))
  exact own_retV X3 Bd.notSynchronized hx Bd.returns (hb hby d23_22) (by
      try rw [show T3.heap = h3 from e3]
      exact ⟨rfl, N0, K0, V_o2, E_o0, F_modCount_o0, F_elementData_o0, F_size_o0⟩) dE_ dE_

def Q22_40 (Z : State) (o0 o1 : Addr) (o3 o4 : Addr) (i0 : Int32) (k0 : ClassId) (h0 : Heap) (n0 : Nat) (v : Option Value) (h : Heap) (L : List Loc) : Prop := v = some (.int (1 : Int32)) ∧ Fr n0 L ∧ Keep h0 h [o0, o3] ∧ Exa Z h o0 c1_ ∧ Fld Z h o0 c6_ "modCount" "I" (.int (i0 + (1 : Int32))) ∧ Fld Z h o0 c1_ "elementData" c5_ (.ref o3) ∧ Fld Z h o0 c1_ "size" "I" (.int (2 : Int32)) ∧ Arv Z h o3 k0 (.object c3_) (2 : Int32) [(.ref o4), (.ref o1)] .null
set_option maxRecDepth 65536 in
set_option maxHeartbeats 40000000 in
theorem rm22_40 (l : Launch) (Z : State) (a0 : Array Value) (hw : oW_ a0 Z) (ws : List Jvm.Cond) (o0 o1 : Addr) (o3 o4 : Addr) (i0 : Int32) (k0 : ClassId) (h0 : Heap) (n0 : Nat) (Z0 : n0 ≤ h0.size) (g_o0 : n0 ≤ o0) (E_o0 : Exa Z h0 o0 c1_) (F_modCount_o0 : Fld Z h0 o0 c6_ "modCount" "I" (.int i0)) (F_elementData_o0 : Fld Z h0 o0 c1_ "elementData" c5_ (.ref o3)) (F_size_o0 : Fld Z h0 o0 c1_ "size" "I" (.int (1 : Int32))) (E_o1 : Exa Z h0 o1 c2_) (g_o3 : n0 ≤ o3) (V_o3 : Arv Z h0 o3 k0 (.object c3_) (2 : Int32) [(.ref o4)] .null) (Ov_k0 : Ovr Z k0 c3_) :
    MetFree l y19_ (head1 (Jvm.Cond.code y19_ jdk_38_method_25_code 2 (some .boolean) :: ws) (rM_ 1 0 0 15)) (fun a U => a = #[(.ref o0), (.ref o1)] ∧ Z.Warmed39 U.vm ∧ U.heap = h0) (fun _ _ _ _ _ => True) (fun _ U o U' => ∃ v L, o = .returned v ∧ Q22_40 Z o0 o1 o3 o4 i0 k0 h0 n0 v U'.heap L ∧ FrameEnd U o U' L (rM_ 1 0 0 15).cells (rM_ 1 0 0 15).slots) := by
  refine MetFree.of_bodySF (plainFor_of_name pn_22) hisR ?_
  intro p e s m args below meth c s₁ Bd hml0 hP hK
  obtain ⟨rfl, hZ, hh⟩ := hP
  have hx := Bd.exec
  have hby := Bd.bytes
  have hml : c.maxLocals = 2 := hml0
  have hown : s.vm.findClass c1_ = some m.cls := findClass_of_methodNamed Bd.named
  have hnm := (name_of_methodNamed Bd.named Bd.method).1
  have X0 : Stand p l e (rM_ 1 0 0 15) s m #[(.ref o0), (.ref o1)] below meth c s₁ [] 0 0 := Stand.of_body Bd
  have e0 : s₁.heap = h0 := by rw [← hh, Bd.state]; rfl
  have N0 := Fr.nil n0
  have K0 : Keep h0 h0 [o0, o3] := Keep.refl h0 _
  change own_Go p e below (own_Post s (Q22_40 Z o0 o1 o3 o4 i0 k0 h0 n0) (rM_ 1 0 0 15).cells (rM_ 1 0 0 15).slots) (s₁.setTop (entryFrame m #[(.ref o0), (.ref o1)] 2))
  refine own_by (fun t k => castTop (ef_22 m o0 o1) k) ?_
  show own_Go p e below _ (s₁.setTop (mkF m 0 #[rv o0, rv o1] []))
  refine own_by (B := s₁.setTop (mkF m 2 #[rv o0, rv o1] [(.ref o0), (.ref o0)])) (fun t k => ?_) ?_
  · refine XS.aloadN X0.here hx rfl (hb hby d22_0) rfl rfl ?_
    refine XS.dup X0.here hx rfl (hb hby d22_1) rfl rfl ?_
    exact k
  refine own_c1 (getF X0 hx hZ hown (host := "") (Or.inl (hW hw 153 rfl)) (Via.of (hW hw 154 rfl)) e0 F_modCount_o0 rfl rfl (hb hby d22_2)) fun T1 X1 e1 => ?_
  show own_Go p e below _ (T1.setTop (mkF m 5 #[rv o0, rv o1] [(.int i0), (.ref o0)]))
  refine own_by (B := T1.setTop (mkF m 7 #[rv o0, rv o1] [(.int (i0 + (1 : Int32))), (.ref o0)])) (fun t k => ?_) ?_
  · refine XS.iconst X1.here hx rfl (hb hby d22_5) ?_
    refine XS.iadd X1.here hx rfl (hb hby d22_6) rfl ?_
    show Steps p.tables e below (T1.setTop (mkF m 7 #[rv o0, rv o1] [(.int (i0 + (1 : Int32))), (.ref o0)])) _
    exact k
  refine own_c2 (putF X1 hx hZ hown (host := "") (Or.inl (hW hw 153 rfl)) (Via.of (hW hw 154 rfl)) e1 F_modCount_o0 E_o0 (Or.inl (hW hw 108 rfl)) (hW hw 89 rfl) (ty := .int) dE_ rfl rfl rfl rfl (hb hby d22_7)) fun T2 h2 X2 e2 W2 => ?_
  replace F_modCount_o0 := F_modCount_o0.same W2
  have nx1 : o3 ≠ o0 := (Ne.symm (own_nev E_o0 (hW hw 89 rfl) V_o3))
  replace E_o0 := E_o0.wr W2
  replace F_elementData_o0 := F_elementData_o0.other W2 (Or.inr (sn0 hw))
  replace F_size_o0 := F_size_o0.other W2 (Or.inr (sn1 hw))
  replace E_o1 := E_o1.wr W2
  replace V_o3 := V_o3.other W2 nx1
  replace K0 := K0.wr W2 (Or.inl (List.mem_of_getElem? (i := 0) rfl))
  replace Z0 := Nat.le_trans Z0 (Keep.of_wr W2).1
  replace N0 := Fr.snoc X2 N0 g_o0
  show own_Go p e below _ (T2.setTop (mkF m 10 #[rv o0, rv o1] []))
  refine own_by (B := T2.setTop (mkF m 13 #[rv o0, rv o1] [(.ref o0), (.ref o1), (.ref o0)])) (fun t k => ?_) ?_
  · refine XS.aloadN X2.here hx rfl (hb hby d22_10) rfl rfl ?_
    refine XS.aloadN X2.here hx rfl (hb hby d22_11) rfl rfl ?_
    refine XS.aloadN X2.here hx rfl (hb hby d22_12) rfl rfl ?_
    exact k
  refine own_c1 (getF X2 hx hZ hown (host := "") (Or.inl (hW hw 110 rfl)) Via.refl e2 F_elementData_o0 rfl rfl (hb hby d22_13)) fun T3 X3 e3 => ?_
  show own_Go p e below _ (T3.setTop (mkF m 16 #[rv o0, rv o1] [(.ref o3), (.ref o1), (.ref o0)]))
  refine own_by (B := T3.setTop (mkF m 17 #[rv o0, rv o1] [(.ref o0), (.ref o3), (.ref o1), (.ref o0)])) (fun t k => ?_) ?_
  · refine XS.aloadN X3.here hx rfl (hb hby d22_16) rfl rfl ?_
    exact k
  refine own_c1 (getF X3 hx hZ hown (host := "") (Or.inl (hW hw 125 rfl)) Via.refl e3 F_size_o0 rfl rfl (hb hby d22_17)) fun T4 X4 e4 => ?_
  show own_Go p e below _ (T4.setTop (mkF m 20 #[rv o0, rv o1] [(.int (1 : Int32)), (.ref o3), (.ref o1), (.ref o0)]))
  refine own_cc (own_callP X4 hx hZ (y := y18_) hown (hW hw 155 rfl) (hW hw 156 rfl) (hW hw 90 rfl) (hW hw 159 rfl) (hW hw 157 rfl) (hW hw 89 rfl) dE_ (rm23_39 l Z a0 hw [] o0 o1 o3 o4 (i0 + (1 : Int32)) (1 : Int32) k0 h2 n0 Z0 g_o0 E_o0 F_modCount_o0 F_elementData_o0 F_size_o0 E_o1 g_o3 V_o3 Ov_k0) e4 0 dE_ dE_ dE_ dE_ rfl (by rw [hml]; rfl) o0 E_o0 [(.ref o1), (.ref o3), (.int (1 : Int32))] [] rfl (lenOf pd_13 rfl) rfl (by show 2 * 0 + _ ≤ _; exact Nat.le_of_eq rfl) (hb hby d22_20)) fun T6 L6 v6 X6 hQ6 => ?_
  obtain ⟨rfl, N6, K6, V_o3', E_o0', F_modCount_o0', F_elementData_o0', F_size_o0'⟩ := hQ6
  replace N0 := Fr.app N0 N6
  replace E_o0 := E_o0.keep K6
  replace E_o1 := E_o1.keep K6
  replace K0 := K0.trans K6 (allS (Or.inl (List.mem_of_getElem? (i := 1) rfl)) (allS (Or.inl (List.mem_of_getElem? (i := 0) rfl)) all0))
  replace Z0 := Nat.le_trans Z0 K6.1
  have V_o3 := V_o3'
  replace E_o0 := E_o0'
  have F_modCount_o0 := F_modCount_o0'
  have F_elementData_o0 := F_elementData_o0'
  have F_size_o0 := F_size_o0'
  show own_Go p e below _ (T6.setTop (mkF m 23 #[rv o0, rv o1] []))
  refine own_by (B := T6.setTop (mkF m 24 #[rv o0, rv o1] [(.int (1 : Int32))])) (fun t k => ?_) ?_
  · refine XS.iconst X6.here hx rfl (hb hby d22_23) ?_
    exact k
  exact own_retN X6 Bd.notSynchronized hx (t := .boolean) Bd.returns (by simp) (hb hby d22_24) ⟨rfl, N0, K0, E_o0, F_modCount_o0, F_elementData_o0, F_size_o0, V_o3⟩ dE_ dE_

def Q18_41 (Z : State) (o0 o1 : Addr) (o3 o4 : Addr) (o5 o6 o8 : Addr) (i6 : Int32) (k0 : ClassId) (j0 j1 j2 : Int64) (k1 : ClassId) (j3 j4 j5 : Int64) (k2 : ClassId) (i7 i8 : Int32) (k3 : ClassId) (i9 i10 i11 : Int32) (k5 : ClassId) (h0 : Heap) (n0 : Nat) (v : Option Value) (h : Heap) (L : List Loc) : Prop := ∃ b5_4 : Addr, ∃ b5 : Addr, v = none ∧ Fr n0 L ∧ Keep h0 h [o1, o8] ∧ Exa Z h o1 c1_ ∧ Fld Z h o1 c6_ "modCount" "I" (.int ((i6 + (1 : Int32)) + (1 : Int32))) ∧ Fld Z h o1 c1_ "elementData" c5_ (.ref o8) ∧ Fld Z h o1 c1_ "size" "I" (.int (2 : Int32)) ∧ Arv Z h o8 k5 (.object c3_) (2 : Int32) [(.ref b5_4), (.ref b5)] .null ∧ Exa Z h b5_4 c2_ ∧ Fld Z h b5_4 c2_ "price" "J" (.long j2) ∧ Fld Z h b5_4 c2_ "size" "J" (.long j5) ∧ Exa Z h b5 c2_ ∧ Fld Z h b5 c2_ "price" "J" (.long j1) ∧ Fld Z h b5 c2_ "size" "J" (.long j4) ∧ h0.size ≤ b5_4 ∧ h0.size ≤ b5 ∧ b5_4 ≠ b5
set_option maxRecDepth 65536 in
set_option maxHeartbeats 40000000 in
theorem rm18_41 (l : Launch) (Z : State) (a0 : Array Value) (hw : oW_ a0 Z) (ws : List Jvm.Cond) (o0 o1 : Addr) (o3 o4 : Addr) (o5 o6 o8 : Addr) (i6 : Int32) (k0 : ClassId) (j0 j1 j2 : Int64) (k1 : ClassId) (j3 j4 j5 : Int64) (k2 : ClassId) (i7 i8 : Int32) (k3 : ClassId) (i9 i10 i11 : Int32) (k5 : ClassId) (h0 : Heap) (n0 : Nat) (Z0 : n0 ≤ h0.size) (E_o0 : Exa Z h0 o0 c0_) (F_prices_o0 : Fld Z h0 o0 c0_ "prices" "[J" (.ref o3)) (F_sizes_o0 : Fld Z h0 o0 c0_ "sizes" "[J" (.ref o4)) (F_left_o0 : Fld Z h0 o0 c0_ "left" "[I" (.ref o5)) (F_right_o0 : Fld Z h0 o0 c0_ "right" "[I" (.ref o6)) (g_o1 : n0 ≤ o1) (E_o1 : Exa Z h0 o1 c1_) (F_modCount_o1 : Fld Z h0 o1 c6_ "modCount" "I" (.int i6)) (F_elementData_o1 : Fld Z h0 o1 c1_ "elementData" c5_ (.ref o8)) (F_size_o1 : Fld Z h0 o1 c1_ "size" "I" oZ) (V_o3 : Arv Z h0 o3 k0 .long (8 : Int32) [(.long j0), (.long j1), (.long j2)] oY) (V_o4 : Arv Z h0 o4 k1 .long (8 : Int32) [(.long j3), (.long j4), (.long j5)] oY) (V_o5 : Arv Z h0 o5 k2 .int (8 : Int32) [(.int i7), (.int (2 : Int32)), (.int i8)] oZ) (V_o6 : Arv Z h0 o6 k3 .int (8 : Int32) [(.int i9), (.int i10), (.int i11)] oZ) (g_o8 : n0 ≤ o8) (V_o8 : Arv Z h0 o8 k5 (.object c3_) (2 : Int32) [] .null) (Ov_k5 : Ovr Z k5 c3_) (hp0 : i8 = (0 : Int32)) (ne_o3_o8 : o3 ≠ o8) (ne_o4_o8 : o4 ≠ o8) (ne_o5_o8 : o5 ≠ o8) (ne_o6_o8 : o6 ≠ o8) (hp1 : i11 = (0 : Int32)) (hp2 : i10 = (0 : Int32)) :
    MetFree l y10_ (head1 (Jvm.Cond.code y10_ prog_3_method_7_code 3 none :: ws) (rM_ 4 2 4 56)) (fun a U => a = #[(.ref o0), (.int (1 : Int32)), (.ref o1)] ∧ Z.Warmed39 U.vm ∧ U.heap = h0) (fun _ _ _ _ _ => True) (fun _ U o U' => ∃ v L, o = .returned v ∧ Q18_41 Z o0 o1 o3 o4 o5 o6 o8 i6 k0 j0 j1 j2 k1 j3 j4 j5 k2 i7 i8 k3 i9 i10 i11 k5 h0 n0 v U'.heap L ∧ FrameEnd U o U' L (rM_ 4 2 4 56).cells (rM_ 4 2 4 56).slots) := by
  refine MetFree.of_bodySF (plainFor_of_name pn_18) hisR ?_
  intro p e s m args below meth c s₁ Bd hml0 hP hK
  obtain ⟨rfl, hZ, hh⟩ := hP
  have hx := Bd.exec
  have hby := Bd.bytes
  have hml : c.maxLocals = 3 := hml0
  have hown : s.vm.findClass c0_ = some m.cls := findClass_of_methodNamed Bd.named
  have hnm := (name_of_methodNamed Bd.named Bd.method).1
  have X0 : Stand p l e (rM_ 4 2 4 56) s m #[(.ref o0), (.int (1 : Int32)), (.ref o1)] below meth c s₁ [] 0 0 := Stand.of_body Bd
  have e0 : s₁.heap = h0 := by rw [← hh, Bd.state]; rfl
  have N0 := Fr.nil n0
  have K0 : Keep h0 h0 [o1, o8] := Keep.refl h0 _
  change own_Go p e below (own_Post s (Q18_41 Z o0 o1 o3 o4 o5 o6 o8 i6 k0 j0 j1 j2 k1 j3 j4 j5 k2 i7 i8 k3 i9 i10 i11 k5 h0 n0) (rM_ 4 2 4 56).cells (rM_ 4 2 4 56).slots) (s₁.setTop (entryFrame m #[(.ref o0), (.int (1 : Int32)), (.ref o1)] 3))
  refine own_by (fun t k => castTop (ef_18 m o0 (1 : Int32) o1) k) ?_
  show own_Go p e below _ (s₁.setTop (mkF m 0 #[rv o0, iv (1 : Int32), rv o1] []))
  refine own_by (B := s₁.setTop (mkF m 6 #[rv o0, iv (1 : Int32), rv o1] [(.ref o0), (.ref o0)])) (fun t k => ?_) ?_
  · refine XS.iloadN X0.here hx rfl (hb hby d18_0) rfl ?_
    refine XS.ifNo X0.here hx rfl (hb hby d18_1) rfl ((if0 _ _).trans (feq (by decide : ¬ ((1 : Int32) = (0 : Int32)))).1) ?_
    show Steps p.tables e below (s₁.setTop (mkF m 4 #[rv o0, iv (1 : Int32), rv o1] [])) _
    refine XS.aloadN X0.here hx rfl (hb hby d18_4) rfl rfl ?_
    refine XS.aloadN X0.here hx rfl (hb hby d18_5) rfl rfl ?_
    exact k
  refine own_c1 (getF X0 hx hZ hown (host := "") (Or.inl (hW hw 16 rfl)) Via.refl e0 F_left_o0 rfl rfl (hb hby d18_6)) fun T1 X1 e1 => ?_
  show own_Go p e below _ (T1.setTop (mkF m 9 #[rv o0, iv (1 : Int32), rv o1] [(.ref o5), (.ref o0)]))
  refine own_by (B := T1.setTop (mkF m 12 #[rv o0, iv (1 : Int32), rv o1] [(.ref o1), (.int (2 : Int32)), (.ref o0)])) (fun t k => ?_) ?_
  · refine XS.iloadN X1.here hx rfl (hb hby d18_9) rfl ?_
    obtain ⟨cl2, Ar2, q2, S2, N2, H2, G2⟩ := id V_o5
    have hin2 : ¬ ((1 : Int32) < 0 ∨ cl2.slots.size ≤ ((1 : Int32)).toNatClampNeg) := inb_of S2 ⟨by decide, by decide⟩
    have hat2 : cl2.slots[((1 : Int32)).toNatClampNeg]? = some (.int (2 : Int32)) := H2.at hin2 rfl
    refine X1.iaload hx (j := (1 : Int32)) (v := (.int (2 : Int32))) (by rw [show T1.heap = h0 from e1]; exact Ar2.1) (State.isArrayOf_alike hZ.alike Ar2.2.1) Ar2.2.2 hin2 hat2 (g := (mkF m 10 #[rv o0, iv (1 : Int32), rv o1] [(.int (1 : Int32)), (.ref o5), (.ref o0)])) rfl rfl (hb hby d18_10) _ ?_
    show Steps p.tables e below (T1.setTop (mkF m 11 #[rv o0, iv (1 : Int32), rv o1] [(.int (2 : Int32)), (.ref o0)])) _
    refine XS.aloadN X1.here hx rfl (hb hby d18_11) rfl rfl ?_
    exact k
  refine own_cc (own_callP X1 hx hZ (y := y10_) hown (hW hw 112 rfl) (hW hw 113 rfl) (hW hw 3 rfl) (hW hw 115 rfl) (hW hw 114 rfl) (hW hw 2 rfl) dE_ (rm18_38 l Z a0 hw [] o0 o1 o3 o4 o5 o6 o8 i6 k0 j0 j1 j2 k1 j3 j4 j5 k2 i7 (2 : Int32) i8 k3 i9 i10 i11 k5 h0 n0 Z0 E_o0 F_prices_o0 F_sizes_o0 F_left_o0 F_right_o0 g_o1 E_o1 F_modCount_o1 F_elementData_o1 F_size_o1 V_o3 V_o4 V_o5 V_o6 g_o8 V_o8 Ov_k5 hp0 ne_o3_o8 ne_o4_o8 ne_o5_o8 ne_o6_o8 hp1) e1 0 dE_ dE_ dE_ dE_ rfl (by rw [hml]; rfl) o0 E_o0 [(.int (2 : Int32)), (.ref o1)] [] rfl (lenOf pd_10 rfl) rfl (by show 2 * 0 + _ ≤ _; exact Nat.le_of_eq rfl) (hb hby d18_12)) fun T4 L4 v4 X4 hQ4 => ?_
  obtain ⟨b5_4, rfl, N4, K4, V_o8', E_o1', F_modCount_o1', F_elementData_o1', F_size_o1', E_b5_4', F_price_b5_4', F_size_b5_4', sz_b5_4'⟩ := hQ4
  replace N0 := Fr.app N0 N4
  have g_b5_4 : n0 ≤ b5_4 := Nat.le_trans Z0 sz_b5_4'
  have sz_b5_4 : h0.size ≤ b5_4 := Nat.le_trans K0.1 sz_b5_4'
  have ne_o0_b5_4 : o0 ≠ b5_4 := Nat.ne_of_lt (Nat.lt_of_lt_of_le E_o0.lt sz_b5_4')
  have ne_o1_b5_4 : o1 ≠ b5_4 := Nat.ne_of_lt (Nat.lt_of_lt_of_le E_o1.lt sz_b5_4')
  have ne_o3_b5_4 : o3 ≠ b5_4 := Nat.ne_of_lt (Nat.lt_of_lt_of_le V_o3.lt sz_b5_4')
  have ne_o4_b5_4 : o4 ≠ b5_4 := Nat.ne_of_lt (Nat.lt_of_lt_of_le V_o4.lt sz_b5_4')
  have ne_o5_b5_4 : o5 ≠ b5_4 := Nat.ne_of_lt (Nat.lt_of_lt_of_le V_o5.lt sz_b5_4')
  have ne_o6_b5_4 : o6 ≠ b5_4 := Nat.ne_of_lt (Nat.lt_of_lt_of_le V_o6.lt sz_b5_4')
  have ne_o8_b5_4 : o8 ≠ b5_4 := Nat.ne_of_lt (Nat.lt_of_lt_of_le V_o8.lt sz_b5_4')
  have nx1 : o0 ≠ o8 := (own_nev E_o0 (hW hw 2 rfl) V_o8)
  have nx2 : o0 ≠ o1 := (ne_exa E_o0 E_o1 dE_)
  have nx3 : o3 ≠ o1 := (Ne.symm (own_nev E_o1 (hW hw 89 rfl) V_o3))
  have nx4 : o4 ≠ o1 := (Ne.symm (own_nev E_o1 (hW hw 89 rfl) V_o4))
  have nx5 : o5 ≠ o1 := (Ne.symm (own_nev E_o1 (hW hw 89 rfl) V_o5))
  have nx6 : o6 ≠ o1 := (Ne.symm (own_nev E_o1 (hW hw 89 rfl) V_o6))
  replace E_o0 := E_o0.keep K4
  replace F_prices_o0 := F_prices_o0.keep K4 (ninS nx1 (ninS nx2 nin0))
  replace F_sizes_o0 := F_sizes_o0.keep K4 (ninS nx1 (ninS nx2 nin0))
  replace F_left_o0 := F_left_o0.keep K4 (ninS nx1 (ninS nx2 nin0))
  replace F_right_o0 := F_right_o0.keep K4 (ninS nx1 (ninS nx2 nin0))
  replace E_o1 := E_o1.keep K4
  replace V_o3 := V_o3.keep K4 (ninS ne_o3_o8 (ninS nx3 nin0))
  replace V_o4 := V_o4.keep K4 (ninS ne_o4_o8 (ninS nx4 nin0))
  replace V_o5 := V_o5.keep K4 (ninS ne_o5_o8 (ninS nx5 nin0))
  replace V_o6 := V_o6.keep K4 (ninS ne_o6_o8 (ninS nx6 nin0))
  replace K0 := K0.trans K4 (allS (Or.inl (List.mem_of_getElem? (i := 1) rfl)) (allS (Or.inl (List.mem_of_getElem? (i := 0) rfl)) all0))
  replace Z0 := Nat.le_trans Z0 K4.1
  have V_o8 := V_o8'
  replace E_o1 := E_o1'
  have F_modCount_o1 := F_modCount_o1'
  have F_elementData_o1 := F_elementData_o1'
  have F_size_o1 := F_size_o1'
  have E_b5_4 := E_b5_4'
  have F_price_b5_4 := F_price_b5_4'
  have F_size_b5_4 := F_size_b5_4'
  show own_Go p e below _ (T4.setTop (mkF m 15 #[rv o0, iv (1 : Int32), rv o1] []))
  refine own_by (B := T4.setTop (mkF m 16 #[rv o0, iv (1 : Int32), rv o1] [(.ref o1)])) (fun t k => ?_) ?_
  · refine XS.aloadN X4.here hx rfl (hb hby d18_15) rfl rfl ?_
    exact k
  obtain ⟨T5, h5, X5, e5, E5, A5, D5, -, st5⟩ := newO X4 hx hZ hown (hW hw 129 rfl) (hW hw 130 rfl) (hW hw 131 rfl) rfl (g := (mkF m 16 #[rv o0, iv (1 : Int32), rv o1] [(.ref o1)])) rfl (hb hby d18_16) dE_ dE_
  obtain ⟨b5, g5⟩ : ∃ z, z = T4.heap.size := ⟨_, rfl⟩
  rw [← g5] at A5 D5 st5
  have g_b5 : n0 ≤ b5 := Nat.le_trans Z0 (Nat.le_of_eq g5.symm)
  have sz_b5 : h0.size ≤ b5 := Nat.le_trans K0.1 (Nat.le_of_eq g5.symm)
  have ne_o0_b5 : o0 ≠ b5 := Nat.ne_of_lt (Nat.lt_of_lt_of_le E_o0.lt (Nat.le_of_eq g5.symm))
  have ne_o1_b5 : o1 ≠ b5 := Nat.ne_of_lt (Nat.lt_of_lt_of_le E_o1.lt (Nat.le_of_eq g5.symm))
  have ne_o3_b5 : o3 ≠ b5 := Nat.ne_of_lt (Nat.lt_of_lt_of_le V_o3.lt (Nat.le_of_eq g5.symm))
  have ne_o4_b5 : o4 ≠ b5 := Nat.ne_of_lt (Nat.lt_of_lt_of_le V_o4.lt (Nat.le_of_eq g5.symm))
  have ne_o5_b5 : o5 ≠ b5 := Nat.ne_of_lt (Nat.lt_of_lt_of_le V_o5.lt (Nat.le_of_eq g5.symm))
  have ne_o6_b5 : o6 ≠ b5 := Nat.ne_of_lt (Nat.lt_of_lt_of_le V_o6.lt (Nat.le_of_eq g5.symm))
  have ne_o8_b5 : o8 ≠ b5 := Nat.ne_of_lt (Nat.lt_of_lt_of_le V_o8.lt (Nat.le_of_eq g5.symm))
  have ne_b5_4_b5 : b5_4 ≠ b5 := Nat.ne_of_lt (Nat.lt_of_lt_of_le E_b5_4.lt (Nat.le_of_eq g5.symm))
  replace E_o0 := E_o0.ext E5
  replace F_prices_o0 := F_prices_o0.ext E5
  replace F_sizes_o0 := F_sizes_o0.ext E5
  replace F_left_o0 := F_left_o0.ext E5
  replace F_right_o0 := F_right_o0.ext E5
  replace E_o1 := E_o1.ext E5
  replace V_o3 := V_o3.ext E5
  replace V_o4 := V_o4.ext E5
  replace V_o5 := V_o5.ext E5
  replace V_o6 := V_o6.ext E5
  replace V_o8 := V_o8.ext E5
  replace F_modCount_o1 := F_modCount_o1.ext E5
  replace F_elementData_o1 := F_elementData_o1.ext E5
  replace F_size_o1 := F_size_o1.ext E5
  replace E_b5_4 := E_b5_4.ext E5
  replace F_price_b5_4 := F_price_b5_4.ext E5
  replace F_size_b5_4 := F_size_b5_4.ext E5
  replace K0 := K0.ext E5
  replace Z0 := Nat.le_trans Z0 E5.1
  have E_b5 := A5
  have F_price_b5 : Fld Z h5 b5 c2_ "price" "J" oY := D5 (Or.inr (hW hw 142 rfl)) (ty := .long) dE_
  have F_size_b5 : Fld Z h5 b5 c2_ "size" "J" oY := D5 (Or.inr (hW hw 144 rfl)) (ty := .long) dE_
  refine own_by st5 ?_
  show own_Go p e below _ (T5.setTop (mkF m 19 #[rv o0, iv (1 : Int32), rv o1] [(.ref b5), (.ref o1)]))
  refine own_by (B := T5.setTop (mkF m 21 #[rv o0, iv (1 : Int32), rv o1] [(.ref o0), (.ref b5), (.ref b5), (.ref o1)])) (fun t k => ?_) ?_
  · refine XS.dup X5.here hx rfl (hb hby d18_19) rfl rfl ?_
    refine XS.aloadN X5.here hx rfl (hb hby d18_20) rfl rfl ?_
    exact k
  refine own_c1 (getF X5 hx hZ hown (host := "") (Or.inl (hW hw 11 rfl)) Via.refl e5 F_prices_o0 rfl rfl (hb hby d18_21)) fun T6 X6 e6 => ?_
  show own_Go p e below _ (T6.setTop (mkF m 24 #[rv o0, iv (1 : Int32), rv o1] [(.ref o3), (.ref b5), (.ref b5), (.ref o1)]))
  refine own_by (B := T6.setTop (mkF m 27 #[rv o0, iv (1 : Int32), rv o1] [(.ref o0), (.long j1), (.ref b5), (.ref b5), (.ref o1)])) (fun t k => ?_) ?_
  · refine XS.iloadN X6.here hx rfl (hb hby d18_24) rfl ?_
    obtain ⟨cl7, Ar7, q7, S7, N7, H7, G7⟩ := id V_o3
    have hin7 : ¬ ((1 : Int32) < 0 ∨ cl7.slots.size ≤ ((1 : Int32)).toNatClampNeg) := inb_of S7 ⟨by decide, by decide⟩
    have hat7 : cl7.slots[((1 : Int32)).toNatClampNeg]? = some (.long j1) := H7.at hin7 rfl
    refine X6.laload hx (j := (1 : Int32)) (v := (.long j1)) (by rw [show T6.heap = h5 from e6]; exact Ar7.1) (State.isArrayOf_alike hZ.alike Ar7.2.1) Ar7.2.2 hin7 hat7 (g := (mkF m 25 #[rv o0, iv (1 : Int32), rv o1] [(.int (1 : Int32)), (.ref o3), (.ref b5), (.ref b5), (.ref o1)])) rfl rfl (hb hby d18_25) _ ?_
    show Steps p.tables e below (T6.setTop (mkF m 26 #[rv o0, iv (1 : Int32), rv o1] [(.long j1), (.ref b5), (.ref b5), (.ref o1)])) _
    refine XS.aloadN X6.here hx rfl (hb hby d18_26) rfl rfl ?_
    exact k
  refine own_c1 (getF X6 hx hZ hown (host := "") (Or.inl (hW hw 13 rfl)) Via.refl e6 F_sizes_o0 rfl rfl (hb hby d18_27)) fun T8 X8 e8 => ?_
  show own_Go p e below _ (T8.setTop (mkF m 30 #[rv o0, iv (1 : Int32), rv o1] [(.ref o4), (.long j1), (.ref b5), (.ref b5), (.ref o1)]))
  refine own_by (B := T8.setTop (mkF m 32 #[rv o0, iv (1 : Int32), rv o1] [(.long j4), (.long j1), (.ref b5), (.ref b5), (.ref o1)])) (fun t k => ?_) ?_
  · refine XS.iloadN X8.here hx rfl (hb hby d18_30) rfl ?_
    obtain ⟨cl9, Ar9, q9, S9, N9, H9, G9⟩ := id V_o4
    have hin9 : ¬ ((1 : Int32) < 0 ∨ cl9.slots.size ≤ ((1 : Int32)).toNatClampNeg) := inb_of S9 ⟨by decide, by decide⟩
    have hat9 : cl9.slots[((1 : Int32)).toNatClampNeg]? = some (.long j4) := H9.at hin9 rfl
    refine X8.laload hx (j := (1 : Int32)) (v := (.long j4)) (by rw [show T8.heap = h5 from e8]; exact Ar9.1) (State.isArrayOf_alike hZ.alike Ar9.2.1) Ar9.2.2 hin9 hat9 (g := (mkF m 31 #[rv o0, iv (1 : Int32), rv o1] [(.int (1 : Int32)), (.ref o4), (.long j1), (.ref b5), (.ref b5), (.ref o1)])) rfl rfl (hb hby d18_31) _ ?_
    show Steps p.tables e below (T8.setTop (mkF m 32 #[rv o0, iv (1 : Int32), rv o1] [(.long j4), (.long j1), (.ref b5), (.ref b5), (.ref o1)])) _
    exact k
  refine own_cc (own_callI X8 hx hZ (y := y17_) rfl hown (hW hw 132 rfl) (hW hw 133 rfl) (hW hw 131 rfl) (hW hw 134 rfl) dE_ (rm20_16 l Z a0 hw [] b5 j1 j4 (0 : Int64) (0 : Int64) h5 n0 Z0 g_b5 E_b5 F_price_b5 F_size_b5) e8 2 dE_ dE_ dE_ dE_ rfl (by rw [hml]; rfl) b5 [(.long j1), (.long j4)] [(.ref b5), (.ref o1)] rfl (lenOf pd_2 rfl) rfl (by show 2 * 0 + _ ≤ _; exact Nat.le_of_eq rfl) (hb hby d18_32)) fun T11 L11 v11 X11 hQ11 => ?_
  obtain ⟨rfl, N11, K11, E_b5', F_price_b5', F_size_b5'⟩ := hQ11
  replace N0 := Fr.app N0 N11
  replace E_o0 := E_o0.keep K11
  replace F_prices_o0 := F_prices_o0.keep K11 (ninS ne_o0_b5 nin0)
  replace F_sizes_o0 := F_sizes_o0.keep K11 (ninS ne_o0_b5 nin0)
  replace F_left_o0 := F_left_o0.keep K11 (ninS ne_o0_b5 nin0)
  replace F_right_o0 := F_right_o0.keep K11 (ninS ne_o0_b5 nin0)
  replace E_o1 := E_o1.keep K11
  replace V_o3 := V_o3.keep K11 (ninS ne_o3_b5 nin0)
  replace V_o4 := V_o4.keep K11 (ninS ne_o4_b5 nin0)
  replace V_o5 := V_o5.keep K11 (ninS ne_o5_b5 nin0)
  replace V_o6 := V_o6.keep K11 (ninS ne_o6_b5 nin0)
  replace V_o8 := V_o8.keep K11 (ninS ne_o8_b5 nin0)
  replace F_modCount_o1 := F_modCount_o1.keep K11 (ninS ne_o1_b5 nin0)
  replace F_elementData_o1 := F_elementData_o1.keep K11 (ninS ne_o1_b5 nin0)
  replace F_size_o1 := F_size_o1.keep K11 (ninS ne_o1_b5 nin0)
  replace E_b5_4 := E_b5_4.keep K11
  replace F_price_b5_4 := F_price_b5_4.keep K11 (ninS ne_b5_4_b5 nin0)
  replace F_size_b5_4 := F_size_b5_4.keep K11 (ninS ne_b5_4_b5 nin0)
  replace E_b5 := E_b5.keep K11
  replace K0 := K0.trans K11 (allS (Or.inr sz_b5) all0)
  replace Z0 := Nat.le_trans Z0 K11.1
  replace E_b5 := E_b5'
  have F_price_b5 := F_price_b5'
  have F_size_b5 := F_size_b5'
  show own_Go p e below _ (T11.setTop (mkF m 35 #[rv o0, iv (1 : Int32), rv o1] [(.ref b5), (.ref o1)]))
  refine own_cc (own_callF X11 hx hZ (y := y20_) (z := y19_) hown (hW hw 145 rfl) (hW hw 146 rfl) (hW hw 147 rfl) (hW hw 148 rfl) (hW hw 149 rfl) (hW hw 150 rfl) (hW hw 151 rfl) (hW hw 123 rfl) (hW hw 90 rfl) (hW hw 152 rfl) dE_ (rm22_40 l Z a0 hw [] o1 b5 o8 b5_4 (i6 + (1 : Int32)) k5 T11.heap n0 Z0 g_o1 E_o1 F_modCount_o1 F_elementData_o1 F_size_o1 E_b5 g_o8 V_o8 Ov_k5) (rfl : T11.heap = _) 0 dE_ dE_ dE_ dE_ rfl (by rw [hml]; rfl) o1 E_o1 [(.ref b5)] [] rfl (lenOf pd_12 rfl) rfl (by show 2 * 0 + _ ≤ _; exact Nat.le_of_eq rfl) (hb hby d18_35)) fun T13 L13 v13 X13 hQ13 => ?_
  obtain ⟨rfl, N13, K13, E_o1', F_modCount_o1', F_elementData_o1', F_size_o1', V_o8'⟩ := hQ13
  replace N0 := Fr.app N0 N13
  replace E_o0 := E_o0.keep K13
  replace F_prices_o0 := F_prices_o0.keep K13 (ninS nx2 (ninS nx1 nin0))
  replace F_sizes_o0 := F_sizes_o0.keep K13 (ninS nx2 (ninS nx1 nin0))
  replace F_left_o0 := F_left_o0.keep K13 (ninS nx2 (ninS nx1 nin0))
  replace F_right_o0 := F_right_o0.keep K13 (ninS nx2 (ninS nx1 nin0))
  replace E_o1 := E_o1.keep K13
  replace V_o3 := V_o3.keep K13 (ninS nx3 (ninS ne_o3_o8 nin0))
  replace V_o4 := V_o4.keep K13 (ninS nx4 (ninS ne_o4_o8 nin0))
  replace V_o5 := V_o5.keep K13 (ninS nx5 (ninS ne_o5_o8 nin0))
  replace V_o6 := V_o6.keep K13 (ninS nx6 (ninS ne_o6_o8 nin0))
  replace E_b5_4 := E_b5_4.keep K13
  replace F_price_b5_4 := F_price_b5_4.keep K13 (ninS (Ne.symm ne_o1_b5_4) (ninS (Ne.symm ne_o8_b5_4) nin0))
  replace F_size_b5_4 := F_size_b5_4.keep K13 (ninS (Ne.symm ne_o1_b5_4) (ninS (Ne.symm ne_o8_b5_4) nin0))
  replace E_b5 := E_b5.keep K13
  replace F_price_b5 := F_price_b5.keep K13 (ninS (Ne.symm ne_o1_b5) (ninS (Ne.symm ne_o8_b5) nin0))
  replace F_size_b5 := F_size_b5.keep K13 (ninS (Ne.symm ne_o1_b5) (ninS (Ne.symm ne_o8_b5) nin0))
  replace K0 := K0.trans K13 (allS (Or.inl (List.mem_of_getElem? (i := 0) rfl)) (allS (Or.inl (List.mem_of_getElem? (i := 1) rfl)) all0))
  replace Z0 := Nat.le_trans Z0 K13.1
  replace E_o1 := E_o1'
  have F_modCount_o1 := F_modCount_o1'
  have F_elementData_o1 := F_elementData_o1'
  have F_size_o1 := F_size_o1'
  have V_o8 := V_o8'
  show own_Go p e below _ (T13.setTop (mkF m 40 #[rv o0, iv (1 : Int32), rv o1] [(.int (1 : Int32))]))
  refine own_by (B := T13.setTop (mkF m 43 #[rv o0, iv (1 : Int32), rv o1] [(.ref o0), (.ref o0)])) (fun t k => ?_) ?_
  · refine XS.pop X13.here hx rfl (hb hby d18_40) rfl rfl ?_
    show Steps p.tables e below (T13.setTop (mkF m 41 #[rv o0, iv (1 : Int32), rv o1] [])) _
    refine XS.aloadN X13.here hx rfl (hb hby d18_41) rfl rfl ?_
    refine XS.aloadN X13.here hx rfl (hb hby d18_42) rfl rfl ?_
    exact k
  refine own_c1 (getF X13 hx hZ hown (host := "") (Or.inl (hW hw 18 rfl)) Via.refl rfl F_right_o0 rfl rfl (hb hby d18_43)) fun T14 X14 e14 => ?_
  show own_Go p e below _ (T14.setTop (mkF m 46 #[rv o0, iv (1 : Int32), rv o1] [(.ref o6), (.ref o0)]))
  refine own_by (B := T14.setTop (mkF m 49 #[rv o0, iv (1 : Int32), rv o1] [(.ref o1), (.int i10), (.ref o0)])) (fun t k => ?_) ?_
  · refine XS.iloadN X14.here hx rfl (hb hby d18_46) rfl ?_
    obtain ⟨cl15, Ar15, q15, S15, N15, H15, G15⟩ := id V_o6
    have hin15 : ¬ ((1 : Int32) < 0 ∨ cl15.slots.size ≤ ((1 : Int32)).toNatClampNeg) := inb_of S15 ⟨by decide, by decide⟩
    have hat15 : cl15.slots[((1 : Int32)).toNatClampNeg]? = some (.int i10) := H15.at hin15 rfl
    refine X14.iaload hx (j := (1 : Int32)) (v := (.int i10)) (by rw [show T14.heap = T13.heap from e14]; exact Ar15.1) (State.isArrayOf_alike hZ.alike Ar15.2.1) Ar15.2.2 hin15 hat15 (g := (mkF m 47 #[rv o0, iv (1 : Int32), rv o1] [(.int (1 : Int32)), (.ref o6), (.ref o0)])) rfl rfl (hb hby d18_47) _ ?_
    show Steps p.tables e below (T14.setTop (mkF m 48 #[rv o0, iv (1 : Int32), rv o1] [(.int i10), (.ref o0)])) _
    refine XS.aloadN X14.here hx rfl (hb hby d18_48) rfl rfl ?_
    exact k
  refine own_cc (own_callP X14 hx hZ (y := y10_) hown (hW hw 112 rfl) (hW hw 113 rfl) (hW hw 3 rfl) (hW hw 115 rfl) (hW hw 114 rfl) (hW hw 2 rfl) dE_ (rm18_6 l Z a0 hw [] o0 i10 o1 T13.heap n0 Z0 hp2) e14 0 dE_ dE_ dE_ dE_ rfl (by rw [hml]; rfl) o0 E_o0 [(.int i10), (.ref o1)] [] rfl (lenOf pd_10 rfl) rfl (by show 2 * 0 + _ ≤ _; exact Nat.le_of_eq rfl) (hb hby d18_49)) fun T17 L17 v17 X17 hQ17 => ?_
  obtain ⟨rfl, N17, e17⟩ := hQ17
  replace N0 := Fr.app N0 N17
  show own_Go p e below _ (T17.setTop (mkF m 52 #[rv o0, iv (1 : Int32), rv o1] []))
  exact own_retV X17 Bd.notSynchronized hx Bd.returns (hb hby d18_52) (by
      try rw [show T17.heap = T13.heap from e17]
      exact ⟨b5_4, b5, rfl, N0, K0, E_o1, F_modCount_o1, F_elementData_o1, F_size_o1, V_o8, E_b5_4, F_price_b5_4, F_size_b5_4, E_b5, F_price_b5, F_size_b5, sz_b5_4, sz_b5, ne_b5_4_b5⟩) dE_ dE_

def Q14_42 (Z : State) (o0 o2 : Addr) (o3 o4 o5 : Addr) (k0 : ClassId) (j0 j1 j2 : Int64) (k1 : ClassId) (j3 j4 j5 : Int64) (k2 : ClassId) (i4 i5 : Int32) (k3 : ClassId) (i6 i7 i8 : Int32) (h0 : Heap) (n0 : Nat) (v : Option Value) (h : Heap) (L : List Loc) : Prop := ∃ b1 : Addr, ∃ b3_4 : Addr, ∃ b5_4_7 : Addr, ∃ b5_7 : Addr, ∃ k3_4 : ClassId, v = some (.ref b1) ∧ Fr n0 L ∧ Keep h0 h [] ∧ Exa Z h b1 c1_ ∧ Fld Z h b1 c6_ "modCount" "I" (.int (2 : Int32)) ∧ Fld Z h b1 c1_ "elementData" c5_ (.ref b3_4) ∧ Fld Z h b1 c1_ "size" "I" (.int (2 : Int32)) ∧ Arv Z h b3_4 k3_4 (.object c3_) (2 : Int32) [(.ref b5_4_7), (.ref b5_7)] .null ∧ Ovr Z k3_4 c3_ ∧ Exa Z h b5_4_7 c2_ ∧ Fld Z h b5_4_7 c2_ "price" "J" (.long j2) ∧ Fld Z h b5_4_7 c2_ "size" "J" (.long j5) ∧ Exa Z h b5_7 c2_ ∧ Fld Z h b5_7 c2_ "price" "J" (.long j1) ∧ Fld Z h b5_7 c2_ "size" "J" (.long j4) ∧ h0.size ≤ b1 ∧ h0.size ≤ b3_4 ∧ h0.size ≤ b5_4_7 ∧ h0.size ≤ b5_7 ∧ b1 ≠ b3_4 ∧ b1 ≠ b5_4_7 ∧ b1 ≠ b5_7 ∧ b3_4 ≠ b5_4_7 ∧ b3_4 ≠ b5_7 ∧ b5_4_7 ≠ b5_7
set_option maxRecDepth 65536 in
set_option maxHeartbeats 40000000 in
theorem rm14_42 (l : Launch) (Z : State) (a0 : Array Value) (hw : oW_ a0 Z) (ws : List Jvm.Cond) (o0 o2 : Addr) (o3 o4 o5 : Addr) (k0 : ClassId) (j0 j1 j2 : Int64) (k1 : ClassId) (j3 j4 j5 : Int64) (k2 : ClassId) (i4 i5 : Int32) (k3 : ClassId) (i6 i7 i8 : Int32) (h0 : Heap) (n0 : Nat) (Z0 : n0 ≤ h0.size) (E_o0 : Exa Z h0 o0 c0_) (F_prices_o0 : Fld Z h0 o0 c0_ "prices" "[J" (.ref o2)) (F_sizes_o0 : Fld Z h0 o0 c0_ "sizes" "[J" (.ref o3)) (F_left_o0 : Fld Z h0 o0 c0_ "left" "[I" (.ref o4)) (F_right_o0 : Fld Z h0 o0 c0_ "right" "[I" (.ref o5)) (F_root_o0 : Fld Z h0 o0 c0_ "root" "I" (.int (1 : Int32))) (F_count_o0 : Fld Z h0 o0 c0_ "count" "I" (.int (2 : Int32))) (V_o2 : Arv Z h0 o2 k0 .long (8 : Int32) [(.long j0), (.long j1), (.long j2)] oY) (V_o3 : Arv Z h0 o3 k1 .long (8 : Int32) [(.long j3), (.long j4), (.long j5)] oY) (V_o4 : Arv Z h0 o4 k2 .int (8 : Int32) [(.int i4), (.int (2 : Int32)), (.int i5)] oZ) (V_o5 : Arv Z h0 o5 k3 .int (8 : Int32) [(.int i6), (.int i7), (.int i8)] oZ) (hp0 : i5 = (0 : Int32)) (hp1 : i8 = (0 : Int32)) (hp2 : i7 = (0 : Int32)) :
    MetFree l y11_ (head1 (Jvm.Cond.code y11_ prog_3_method_6_code 2 (some (.object c7_)) :: ws) (rM_ 5 4 9 70)) (fun a U => a = #[(.ref o0)] ∧ Z.Warmed39 U.vm ∧ U.heap = h0) (fun _ _ _ _ _ => True) (fun _ U o U' => ∃ v L, o = .returned v ∧ Q14_42 Z o0 o2 o3 o4 o5 k0 j0 j1 j2 k1 j3 j4 j5 k2 i4 i5 k3 i6 i7 i8 h0 n0 v U'.heap L ∧ FrameEnd U o U' L (rM_ 5 4 9 70).cells (rM_ 5 4 9 70).slots) := by
  refine MetFree.of_bodySF (plainFor_of_name pn_14) hisR ?_
  intro p e s m args below meth c s₁ Bd hml0 hP hK
  obtain ⟨rfl, hZ, hh⟩ := hP
  have hx := Bd.exec
  have hby := Bd.bytes
  have hml : c.maxLocals = 2 := hml0
  have hown : s.vm.findClass c0_ = some m.cls := findClass_of_methodNamed Bd.named
  have hnm := (name_of_methodNamed Bd.named Bd.method).1
  have X0 : Stand p l e (rM_ 5 4 9 70) s m #[(.ref o0)] below meth c s₁ [] 0 0 := Stand.of_body Bd
  have e0 : s₁.heap = h0 := by rw [← hh, Bd.state]; rfl
  have N0 := Fr.nil n0
  have K0 : Keep h0 h0 [] := Keep.refl h0 _
  change own_Go p e below (own_Post s (Q14_42 Z o0 o2 o3 o4 o5 k0 j0 j1 j2 k1 j3 j4 j5 k2 i4 i5 k3 i6 i7 i8 h0 n0) (rM_ 5 4 9 70).cells (rM_ 5 4 9 70).slots) (s₁.setTop (entryFrame m #[(.ref o0)] 2))
  refine own_by (fun t k => castTop (ef_14 m o0) k) ?_
  show own_Go p e below _ (s₁.setTop (mkF m 0 #[rv o0, oU] []))
  obtain ⟨T1, h1, X1, e1, E1, A1, D1, -, st1⟩ := newO X0 hx hZ hown (hW hw 88 rfl) (hW hw 89 rfl) (hW hw 90 rfl) e0 (g := (mkF m 0 #[rv o0, oU] [])) rfl (hb hby d14_0) dE_ dE_
  obtain ⟨b1, g1⟩ : ∃ z, z = h0.size := ⟨_, rfl⟩
  rw [← g1] at A1 D1 st1
  have g_b1 : n0 ≤ b1 := Nat.le_trans Z0 (Nat.le_of_eq g1.symm)
  have sz_b1 : h0.size ≤ b1 := Nat.le_trans K0.1 (Nat.le_of_eq g1.symm)
  have ne_o0_b1 : o0 ≠ b1 := Nat.ne_of_lt (Nat.lt_of_lt_of_le E_o0.lt (Nat.le_of_eq g1.symm))
  have ne_o2_b1 : o2 ≠ b1 := Nat.ne_of_lt (Nat.lt_of_lt_of_le V_o2.lt (Nat.le_of_eq g1.symm))
  have ne_o3_b1 : o3 ≠ b1 := Nat.ne_of_lt (Nat.lt_of_lt_of_le V_o3.lt (Nat.le_of_eq g1.symm))
  have ne_o4_b1 : o4 ≠ b1 := Nat.ne_of_lt (Nat.lt_of_lt_of_le V_o4.lt (Nat.le_of_eq g1.symm))
  have ne_o5_b1 : o5 ≠ b1 := Nat.ne_of_lt (Nat.lt_of_lt_of_le V_o5.lt (Nat.le_of_eq g1.symm))
  replace E_o0 := E_o0.ext E1
  replace F_prices_o0 := F_prices_o0.ext E1
  replace F_sizes_o0 := F_sizes_o0.ext E1
  replace F_left_o0 := F_left_o0.ext E1
  replace F_right_o0 := F_right_o0.ext E1
  replace F_root_o0 := F_root_o0.ext E1
  replace F_count_o0 := F_count_o0.ext E1
  replace V_o2 := V_o2.ext E1
  replace V_o3 := V_o3.ext E1
  replace V_o4 := V_o4.ext E1
  replace V_o5 := V_o5.ext E1
  replace K0 := K0.ext E1
  replace Z0 := Nat.le_trans Z0 E1.1
  have E_b1 := A1
  have F_modCount_b1 : Fld Z h1 b1 c6_ "modCount" "I" oZ := D1 (Or.inl (hW hw 108 rfl)) (ty := .int) dE_
  have F_elementData_b1 : Fld Z h1 b1 c1_ "elementData" c5_ .null := D1 (Or.inl (hW hw 111 rfl)) (ty := (.array (.object c3_))) dE_
  have F_size_b1 : Fld Z h1 b1 c1_ "size" "I" oZ := D1 (Or.inl (hW hw 126 rfl)) (ty := .int) dE_
  refine own_by st1 ?_
  show own_Go p e below _ (T1.setTop (mkF m 3 #[rv o0, oU] [(.ref b1)]))
  refine own_by (B := T1.setTop (mkF m 5 #[rv o0, oU] [(.ref o0), (.ref b1), (.ref b1)])) (fun t k => ?_) ?_
  · refine XS.dup X1.here hx rfl (hb hby d14_3) rfl rfl ?_
    refine XS.aloadN X1.here hx rfl (hb hby d14_4) rfl rfl ?_
    exact k
  refine own_c1 (getF X1 hx hZ hown (host := "") (Or.inl (hW hw 46 rfl)) Via.refl e1 F_count_o0 rfl rfl (hb hby d14_5)) fun T2 X2 e2 => ?_
  show own_Go p e below _ (T2.setTop (mkF m 8 #[rv o0, oU] [(.int (2 : Int32)), (.ref b1), (.ref b1)]))
  refine own_cc (own_callI X2 hx hZ (y := y9_) rfl hown (hW hw 91 rfl) (hW hw 92 rfl) (hW hw 90 rfl) (hW hw 93 rfl) dE_ (rm15_35 l Z a0 hw [] b1 (0 : Int32) (0 : Int32) h1 n0 Z0 g_b1 E_b1 F_modCount_b1 F_elementData_b1 F_size_b1) e2 1 dE_ dE_ dE_ dE_ rfl (by rw [hml]; rfl) b1 [(.int (2 : Int32))] [(.ref b1)] rfl (lenOf pd_6 rfl) rfl (by show 2 * 0 + _ ≤ _; exact Nat.le_of_eq rfl) (hb hby d14_8)) fun T4 L4 v4 X4 hQ4 => ?_
  obtain ⟨b3_4, k3_4, rfl, N4, K4, E_b1', F_modCount_b1', F_elementData_b1', F_size_b1', V_b3_4', Ov_k3_4', sz_b3_4'⟩ := hQ4
  replace N0 := Fr.app N0 N4
  have g_b3_4 : n0 ≤ b3_4 := Nat.le_trans Z0 sz_b3_4'
  have sz_b3_4 : h0.size ≤ b3_4 := Nat.le_trans K0.1 sz_b3_4'
  have ne_o0_b3_4 : o0 ≠ b3_4 := Nat.ne_of_lt (Nat.lt_of_lt_of_le E_o0.lt sz_b3_4')
  have ne_o2_b3_4 : o2 ≠ b3_4 := Nat.ne_of_lt (Nat.lt_of_lt_of_le V_o2.lt sz_b3_4')
  have ne_o3_b3_4 : o3 ≠ b3_4 := Nat.ne_of_lt (Nat.lt_of_lt_of_le V_o3.lt sz_b3_4')
  have ne_o4_b3_4 : o4 ≠ b3_4 := Nat.ne_of_lt (Nat.lt_of_lt_of_le V_o4.lt sz_b3_4')
  have ne_o5_b3_4 : o5 ≠ b3_4 := Nat.ne_of_lt (Nat.lt_of_lt_of_le V_o5.lt sz_b3_4')
  have ne_b1_b3_4 : b1 ≠ b3_4 := Nat.ne_of_lt (Nat.lt_of_lt_of_le E_b1.lt sz_b3_4')
  replace E_o0 := E_o0.keep K4
  replace F_prices_o0 := F_prices_o0.keep K4 (ninS ne_o0_b1 nin0)
  replace F_sizes_o0 := F_sizes_o0.keep K4 (ninS ne_o0_b1 nin0)
  replace F_left_o0 := F_left_o0.keep K4 (ninS ne_o0_b1 nin0)
  replace F_right_o0 := F_right_o0.keep K4 (ninS ne_o0_b1 nin0)
  replace F_root_o0 := F_root_o0.keep K4 (ninS ne_o0_b1 nin0)
  replace F_count_o0 := F_count_o0.keep K4 (ninS ne_o0_b1 nin0)
  replace V_o2 := V_o2.keep K4 (ninS ne_o2_b1 nin0)
  replace V_o3 := V_o3.keep K4 (ninS ne_o3_b1 nin0)
  replace V_o4 := V_o4.keep K4 (ninS ne_o4_b1 nin0)
  replace V_o5 := V_o5.keep K4 (ninS ne_o5_b1 nin0)
  replace E_b1 := E_b1.keep K4
  replace K0 := K0.trans K4 (allS (Or.inr sz_b1) all0)
  replace Z0 := Nat.le_trans Z0 K4.1
  replace E_b1 := E_b1'
  have F_modCount_b1 := F_modCount_b1'
  have F_elementData_b1 := F_elementData_b1'
  have F_size_b1 := F_size_b1'
  have V_b3_4 := V_b3_4'
  have Ov_k3_4 := Ov_k3_4'
  show own_Go p e below _ (T4.setTop (mkF m 11 #[rv o0, oU] [(.ref b1)]))
  refine own_by (B := T4.setTop (mkF m 14 #[rv o0, rv b1] [(.ref o0), (.ref o0)])) (fun t k => ?_) ?_
  · refine XS.astoreN X4.here hx rfl (hb hby d14_11) rfl rfl (l' := #[rv o0, rv b1]) rfl ?_
    show Steps p.tables e below (T4.setTop (mkF m 12 #[rv o0, rv b1] [])) _
    refine XS.aloadN X4.here hx rfl (hb hby d14_12) rfl rfl ?_
    refine XS.aloadN X4.here hx rfl (hb hby d14_13) rfl rfl ?_
    exact k
  refine own_c1 (getF X4 hx hZ hown (host := "") (Or.inl (hW hw 23 rfl)) Via.refl rfl F_root_o0 rfl rfl (hb hby d14_14)) fun T5 X5 e5 => ?_
  show own_Go p e below _ (T5.setTop (mkF m 17 #[rv o0, rv b1] [(.int (1 : Int32)), (.ref o0)]))
  refine own_by (B := T5.setTop (mkF m 18 #[rv o0, rv b1] [(.ref b1), (.int (1 : Int32)), (.ref o0)])) (fun t k => ?_) ?_
  · refine XS.aloadN X5.here hx rfl (hb hby d14_17) rfl rfl ?_
    exact k
  refine own_cc (own_callP X5 hx hZ (y := y10_) hown (hW hw 112 rfl) (hW hw 113 rfl) (hW hw 3 rfl) (hW hw 115 rfl) (hW hw 114 rfl) (hW hw 2 rfl) dE_ (rm18_41 l Z a0 hw [] o0 b1 o2 o3 o4 o5 b3_4 (0 : Int32) k0 j0 j1 j2 k1 j3 j4 j5 k2 i4 i5 k3 i6 i7 i8 k3_4 T4.heap n0 Z0 E_o0 F_prices_o0 F_sizes_o0 F_left_o0 F_right_o0 g_b1 E_b1 F_modCount_b1 F_elementData_b1 F_size_b1 V_o2 V_o3 V_o4 V_o5 g_b3_4 V_b3_4 Ov_k3_4 hp0 ne_o2_b3_4 ne_o3_b3_4 ne_o4_b3_4 ne_o5_b3_4 hp1 hp2) e5 0 dE_ dE_ dE_ dE_ rfl (by rw [hml]; rfl) o0 E_o0 [(.int (1 : Int32)), (.ref b1)] [] rfl (lenOf pd_10 rfl) rfl (by show 2 * 0 + _ ≤ _; exact Nat.le_of_eq rfl) (hb hby d14_18)) fun T7 L7 v7 X7 hQ7 => ?_
  obtain ⟨b5_4_7, b5_7, rfl, N7, K7, E_b1', F_modCount_b1', F_elementData_b1', F_size_b1', V_b3_4', E_b5_4_7', F_price_b5_4_7', F_size_b5_4_7', E_b5_7', F_price_b5_7', F_size_b5_7', sz_b5_4_7', sz_b5_7', ne_b5_4_7_b5_7'⟩ := hQ7
  replace N0 := Fr.app N0 N7
  have g_b5_4_7 : n0 ≤ b5_4_7 := Nat.le_trans Z0 sz_b5_4_7'
  have sz_b5_4_7 : h0.size ≤ b5_4_7 := Nat.le_trans K0.1 sz_b5_4_7'
  have ne_o0_b5_4_7 : o0 ≠ b5_4_7 := Nat.ne_of_lt (Nat.lt_of_lt_of_le E_o0.lt sz_b5_4_7')
  have ne_o2_b5_4_7 : o2 ≠ b5_4_7 := Nat.ne_of_lt (Nat.lt_of_lt_of_le V_o2.lt sz_b5_4_7')
  have ne_o3_b5_4_7 : o3 ≠ b5_4_7 := Nat.ne_of_lt (Nat.lt_of_lt_of_le V_o3.lt sz_b5_4_7')
  have ne_o4_b5_4_7 : o4 ≠ b5_4_7 := Nat.ne_of_lt (Nat.lt_of_lt_of_le V_o4.lt sz_b5_4_7')
  have ne_o5_b5_4_7 : o5 ≠ b5_4_7 := Nat.ne_of_lt (Nat.lt_of_lt_of_le V_o5.lt sz_b5_4_7')
  have ne_b1_b5_4_7 : b1 ≠ b5_4_7 := Nat.ne_of_lt (Nat.lt_of_lt_of_le E_b1.lt sz_b5_4_7')
  have ne_b3_4_b5_4_7 : b3_4 ≠ b5_4_7 := Nat.ne_of_lt (Nat.lt_of_lt_of_le V_b3_4.lt sz_b5_4_7')
  have g_b5_7 : n0 ≤ b5_7 := Nat.le_trans Z0 sz_b5_7'
  have sz_b5_7 : h0.size ≤ b5_7 := Nat.le_trans K0.1 sz_b5_7'
  have ne_o0_b5_7 : o0 ≠ b5_7 := Nat.ne_of_lt (Nat.lt_of_lt_of_le E_o0.lt sz_b5_7')
  have ne_o2_b5_7 : o2 ≠ b5_7 := Nat.ne_of_lt (Nat.lt_of_lt_of_le V_o2.lt sz_b5_7')
  have ne_o3_b5_7 : o3 ≠ b5_7 := Nat.ne_of_lt (Nat.lt_of_lt_of_le V_o3.lt sz_b5_7')
  have ne_o4_b5_7 : o4 ≠ b5_7 := Nat.ne_of_lt (Nat.lt_of_lt_of_le V_o4.lt sz_b5_7')
  have ne_o5_b5_7 : o5 ≠ b5_7 := Nat.ne_of_lt (Nat.lt_of_lt_of_le V_o5.lt sz_b5_7')
  have ne_b1_b5_7 : b1 ≠ b5_7 := Nat.ne_of_lt (Nat.lt_of_lt_of_le E_b1.lt sz_b5_7')
  have ne_b3_4_b5_7 : b3_4 ≠ b5_7 := Nat.ne_of_lt (Nat.lt_of_lt_of_le V_b3_4.lt sz_b5_7')
  replace E_o0 := E_o0.keep K7
  replace F_prices_o0 := F_prices_o0.keep K7 (ninS ne_o0_b1 (ninS ne_o0_b3_4 nin0))
  replace F_sizes_o0 := F_sizes_o0.keep K7 (ninS ne_o0_b1 (ninS ne_o0_b3_4 nin0))
  replace F_left_o0 := F_left_o0.keep K7 (ninS ne_o0_b1 (ninS ne_o0_b3_4 nin0))
  replace F_right_o0 := F_right_o0.keep K7 (ninS ne_o0_b1 (ninS ne_o0_b3_4 nin0))
  replace F_root_o0 := F_root_o0.keep K7 (ninS ne_o0_b1 (ninS ne_o0_b3_4 nin0))
  replace F_count_o0 := F_count_o0.keep K7 (ninS ne_o0_b1 (ninS ne_o0_b3_4 nin0))
  replace V_o2 := V_o2.keep K7 (ninS ne_o2_b1 (ninS ne_o2_b3_4 nin0))
  replace V_o3 := V_o3.keep K7 (ninS ne_o3_b1 (ninS ne_o3_b3_4 nin0))
  replace V_o4 := V_o4.keep K7 (ninS ne_o4_b1 (ninS ne_o4_b3_4 nin0))
  replace V_o5 := V_o5.keep K7 (ninS ne_o5_b1 (ninS ne_o5_b3_4 nin0))
  replace E_b1 := E_b1.keep K7
  replace K0 := K0.trans K7 (allS (Or.inr sz_b1) (allS (Or.inr sz_b3_4) all0))
  replace Z0 := Nat.le_trans Z0 K7.1
  replace E_b1 := E_b1'
  have F_modCount_b1 : Fld Z T7.heap b1 c6_ "modCount" "I" (.int (2 : Int32)) := F_modCount_b1'
  have F_elementData_b1 := F_elementData_b1'
  have F_size_b1 := F_size_b1'
  have V_b3_4 := V_b3_4'
  have E_b5_4_7 := E_b5_4_7'
  have F_price_b5_4_7 := F_price_b5_4_7'
  have F_size_b5_4_7 := F_size_b5_4_7'
  have E_b5_7 := E_b5_7'
  have F_price_b5_7 := F_price_b5_7'
  have F_size_b5_7 := F_size_b5_7'
  have ne_b5_4_7_b5_7 := ne_b5_4_7_b5_7'
  show own_Go p e below _ (T7.setTop (mkF m 21 #[rv o0, rv b1] []))
  refine own_by (B := T7.setTop (mkF m 22 #[rv o0, rv b1] [(.ref b1)])) (fun t k => ?_) ?_
  · refine XS.aloadN X7.here hx rfl (hb hby d14_21) rfl rfl ?_
    exact k
  exact own_retR X7 Bd.notSynchronized hx Bd.returns rfl rfl rfl (hb hby d14_22) ⟨b1, b3_4, b5_4_7, b5_7, k3_4, rfl, N0, K0, E_b1, F_modCount_b1, F_elementData_b1, F_size_b1, V_b3_4, Ov_k3_4, E_b5_4_7, F_price_b5_4_7, F_size_b5_4_7, E_b5_7, F_price_b5_7, F_size_b5_7, sz_b1, sz_b3_4, sz_b5_4_7, sz_b5_7, ne_b1_b3_4, ne_b1_b5_4_7, ne_b1_b5_7, ne_b3_4_b5_4_7, ne_b3_4_b5_7, ne_b5_4_7_b5_7⟩ dE_ dE_

def Q28_43 (Z : State) (o0 o2 : Addr) (o3 o4 : Addr) (k0 : ClassId) (h0 : Heap) (n0 : Nat) (v : Option Value) (h : Heap) (L : List Loc) : Prop := v = some (.ref o3) ∧ Fr n0 L ∧ h = h0
set_option maxRecDepth 65536 in
set_option maxHeartbeats 40000000 in
theorem rm28_43 (l : Launch) (Z : State) (a0 : Array Value) (hw : oW_ a0 Z) (ws : List Jvm.Cond) (o0 o2 : Addr) (o3 o4 : Addr) (k0 : ClassId) (h0 : Heap) (n0 : Nat) (Z0 : n0 ≤ h0.size) (F_elementData_o0 : Fld Z h0 o0 c1_ "elementData" c5_ (.ref o2)) (V_o2 : Arv Z h0 o2 k0 (.object c3_) (2 : Int32) [(.ref o3), (.ref o4)] .null) :
    MetFree l y23_ (head1 (Jvm.Cond.code y23_ jdk_38_method_18_code 2 (some (.object c3_)) :: ws) (rM_ 0 0 0 0)) (fun a U => a = #[(.ref o0), oZ] ∧ Z.Warmed39 U.vm ∧ U.heap = h0) (fun _ _ _ _ _ => True) (fun _ U o U' => ∃ v L, o = .returned v ∧ Q28_43 Z o0 o2 o3 o4 k0 h0 n0 v U'.heap L ∧ FrameEnd U o U' L (rM_ 0 0 0 0).cells (rM_ 0 0 0 0).slots) := by
  refine MetFree.of_bodySF (plainFor_of_name pn_28) hisR ?_
  intro p e s m args below meth c s₁ Bd hml0 hP hK
  obtain ⟨rfl, hZ, hh⟩ := hP
  have hx := Bd.exec
  have hby := Bd.bytes
  have hml : c.maxLocals = 2 := hml0
  have hown : s.vm.findClass c1_ = some m.cls := findClass_of_methodNamed Bd.named
  have hnm := (name_of_methodNamed Bd.named Bd.method).1
  have X0 : Stand p l e (rM_ 0 0 0 0) s m #[(.ref o0), oZ] below meth c s₁ [] 0 0 := Stand.of_body Bd
  have e0 : s₁.heap = h0 := by rw [← hh, Bd.state]; rfl
  have N0 := Fr.nil n0
  change own_Go p e below (own_Post s (Q28_43 Z o0 o2 o3 o4 k0 h0 n0) (rM_ 0 0 0 0).cells (rM_ 0 0 0 0).slots) (s₁.setTop (entryFrame m #[(.ref o0), oZ] 2))
  refine own_by (fun t k => castTop (ef_28 m o0 (0 : Int32)) k) ?_
  show own_Go p e below _ (s₁.setTop (mkF m 0 #[rv o0, iv (0 : Int32)] []))
  refine own_by (B := s₁.setTop (mkF m 1 #[rv o0, iv (0 : Int32)] [(.ref o0)])) (fun t k => ?_) ?_
  · refine XS.aloadN X0.here hx rfl (hb hby d28_0) rfl rfl ?_
    exact k
  refine own_c1 (getF X0 hx hZ hown (host := "") (Or.inl (hW hw 110 rfl)) Via.refl e0 F_elementData_o0 rfl rfl (hb hby d28_1)) fun T1 X1 e1 => ?_
  show own_Go p e below _ (T1.setTop (mkF m 4 #[rv o0, iv (0 : Int32)] [(.ref o2)]))
  refine own_by (B := T1.setTop (mkF m 6 #[rv o0, iv (0 : Int32)] [(.ref o3)])) (fun t k => ?_) ?_
  · refine XS.iloadN X1.here hx rfl (hb hby d28_4) rfl ?_
    obtain ⟨cl2, Ar2, q2, S2, N2, H2, G2⟩ := id V_o2
    have hin2 : ¬ ((0 : Int32) < 0 ∨ cl2.slots.size ≤ ((0 : Int32)).toNatClampNeg) := inb_of S2 ⟨by decide, by decide⟩
    have hat2 : cl2.slots[((0 : Int32)).toNatClampNeg]? = some (.ref o3) := H2.at hin2 rfl
    refine X1.aaload hx (j := (0 : Int32)) (v := (.ref o3)) (by rw [show T1.heap = h0 from e1]; exact Ar2.1) (State.isArrayOf_alike hZ.alike Ar2.2.1) rfl Ar2.2.2 hin2 hat2 (g := (mkF m 5 #[rv o0, iv (0 : Int32)] [oZ, (.ref o2)])) rfl rfl (hb hby d28_5) _ ?_
    show Steps p.tables e below (T1.setTop (mkF m 6 #[rv o0, iv (0 : Int32)] [(.ref o3)])) _
    exact k
  exact own_retR X1 Bd.notSynchronized hx Bd.returns rfl rfl rfl (hb hby d28_6) (by
      try rw [show T1.heap = h0 from e1]
      exact ⟨rfl, N0, rfl⟩) dE_ dE_

def Q25_44 (Z : State) (o0 o2 : Addr) (o3 o4 : Addr) (i1 : Int32) (k0 : ClassId) (h0 : Heap) (n0 : Nat) (v : Option Value) (h : Heap) (L : List Loc) : Prop := v = some (.ref o3) ∧ Fr n0 L ∧ h = h0
set_option maxRecDepth 65536 in
set_option maxHeartbeats 40000000 in
theorem rm25_44 (l : Launch) (Z : State) (a0 : Array Value) (hw : oW_ a0 Z) (ws : List Jvm.Cond) (o0 o2 : Addr) (o3 o4 : Addr) (i1 : Int32) (k0 : ClassId) (h0 : Heap) (n0 : Nat) (Z0 : n0 ≤ h0.size) (E_o0 : Exa Z h0 o0 c1_) (F_elementData_o0 : Fld Z h0 o0 c1_ "elementData" c5_ (.ref o2)) (F_size_o0 : Fld Z h0 o0 c1_ "size" "I" (.int i1)) (V_o2 : Arv Z h0 o2 k0 (.object c3_) (2 : Int32) [(.ref o3), (.ref o4)] .null) (hp0 : (0 : Int32) < i1) :
    MetFree l y24_ (head1 (Jvm.Cond.code y24_ jdk_38_method_20_code 2 (some (.object c3_)) :: ws) (rM_ 2 0 0 27)) (fun a U => a = #[(.ref o0), oZ] ∧ Z.Warmed39 U.vm ∧ U.heap = h0) (fun _ _ _ _ _ => True) (fun _ U o U' => ∃ v L, o = .returned v ∧ Q25_44 Z o0 o2 o3 o4 i1 k0 h0 n0 v U'.heap L ∧ FrameEnd U o U' L (rM_ 2 0 0 27).cells (rM_ 2 0 0 27).slots) := by
  refine MetFree.of_bodySF (plainFor_of_name pn_25) hisR ?_
  intro p e s m args below meth c s₁ Bd hml0 hP hK
  obtain ⟨rfl, hZ, hh⟩ := hP
  have hx := Bd.exec
  have hby := Bd.bytes
  have hml : c.maxLocals = 2 := hml0
  have hown : s.vm.findClass c1_ = some m.cls := findClass_of_methodNamed Bd.named
  have hnm := (name_of_methodNamed Bd.named Bd.method).1
  have X0 : Stand p l e (rM_ 2 0 0 27) s m #[(.ref o0), oZ] below meth c s₁ [] 0 0 := Stand.of_body Bd
  have e0 : s₁.heap = h0 := by rw [← hh, Bd.state]; rfl
  have N0 := Fr.nil n0
  change own_Go p e below (own_Post s (Q25_44 Z o0 o2 o3 o4 i1 k0 h0 n0) (rM_ 2 0 0 27).cells (rM_ 2 0 0 27).slots) (s₁.setTop (entryFrame m #[(.ref o0), oZ] 2))
  refine own_by (fun t k => castTop (ef_25 m o0 (0 : Int32)) k) ?_
  show own_Go p e below _ (s₁.setTop (mkF m 0 #[rv o0, iv (0 : Int32)] []))
  refine own_by (B := s₁.setTop (mkF m 2 #[rv o0, iv (0 : Int32)] [(.ref o0), oZ])) (fun t k => ?_) ?_
  · refine XS.iloadN X0.here hx rfl (hb hby d25_0) rfl ?_
    refine XS.aloadN X0.here hx rfl (hb hby d25_1) rfl rfl ?_
    exact k
  refine own_c1 (getF X0 hx hZ hown (host := "") (Or.inl (hW hw 125 rfl)) Via.refl e0 F_size_o0 rfl rfl (hb hby d25_2)) fun T1 X1 e1 => ?_
  show own_Go p e below _ (T1.setTop (mkF m 5 #[rv o0, iv (0 : Int32)] [(.int i1), oZ]))
  refine own_cc (own_callS X1 hx hZ (y := y22_) hown (hW hw 172 rfl) (hW hw 173 rfl) (hW hw 174 rfl) (hW hw 175 rfl) dE_ (rm26_22 l Z a0 hw [] (0 : Int32) i1 h0 n0 Z0 (by decide : ¬ ((0 : Int32) < (0 : Int32))) hp0) e1 0 dE_ dE_ dE_ dE_ rfl (by rw [hml]; rfl) [oZ, (.int i1)] [] rfl (lenOf pd_7 rfl) rfl (by show 2 * 0 + _ ≤ _; exact Nat.le_of_eq rfl) (hb hby d25_5)) fun T3 L3 v3 X3 hQ3 => ?_
  obtain ⟨rfl, N3, e3⟩ := hQ3
  replace N0 := Fr.app N0 N3
  show own_Go p e below _ (T3.setTop (mkF m 8 #[rv o0, iv (0 : Int32)] [oZ]))
  refine own_by (B := T3.setTop (mkF m 11 #[rv o0, iv (0 : Int32)] [oZ, (.ref o0)])) (fun t k => ?_) ?_
  · refine XS.pop X3.here hx rfl (hb hby d25_8) rfl rfl ?_
    show Steps p.tables e below (T3.setTop (mkF m 9 #[rv o0, iv (0 : Int32)] [])) _
    refine XS.aloadN X3.here hx rfl (hb hby d25_9) rfl rfl ?_
    refine XS.iloadN X3.here hx rfl (hb hby d25_10) rfl ?_
    exact k
  refine own_cc (own_callV X3 hx hZ (y := y23_) (z := y23_) hown (hW hw 180 rfl) (hW hw 181 rfl) (notFace_of_selects (args := #[]) (mvT hZ (hW hw 183 rfl))) (hW hw 183 rfl) (hW hw 182 rfl) (hW hw 90 rfl) (hW hw 184 rfl) dE_ (rm28_43 l Z a0 hw [] o0 o2 o3 o4 k0 h0 n0 Z0 F_elementData_o0 V_o2) e3 0 dE_ dE_ dE_ dE_ rfl (by rw [hml]; rfl) o0 E_o0 [oZ] [] rfl (lenOf pd_15 rfl) rfl (by show 2 * 0 + _ ≤ _; exact Nat.le_of_eq rfl) (hb hby d25_11)) fun T5 L5 v5 X5 hQ5 => ?_
  obtain ⟨rfl, N5, e5⟩ := hQ5
  replace N0 := Fr.app N0 N5
  show own_Go p e below _ (T5.setTop (mkF m 14 #[rv o0, iv (0 : Int32)] [(.ref o3)]))
  exact own_retR X5 Bd.notSynchronized hx Bd.returns rfl rfl rfl (hb hby d25_14) (by
      try rw [show T5.heap = h0 from e5]
      exact ⟨rfl, N0, rfl⟩) dE_ dE_

def Q28_45 (Z : State) (o0 o2 : Addr) (o3 o4 : Addr) (k0 : ClassId) (h0 : Heap) (n0 : Nat) (v : Option Value) (h : Heap) (L : List Loc) : Prop := v = some (.ref o4) ∧ Fr n0 L ∧ h = h0
set_option maxRecDepth 65536 in
set_option maxHeartbeats 40000000 in
theorem rm28_45 (l : Launch) (Z : State) (a0 : Array Value) (hw : oW_ a0 Z) (ws : List Jvm.Cond) (o0 o2 : Addr) (o3 o4 : Addr) (k0 : ClassId) (h0 : Heap) (n0 : Nat) (Z0 : n0 ≤ h0.size) (F_elementData_o0 : Fld Z h0 o0 c1_ "elementData" c5_ (.ref o2)) (V_o2 : Arv Z h0 o2 k0 (.object c3_) (2 : Int32) [(.ref o3), (.ref o4)] .null) :
    MetFree l y23_ (head1 (Jvm.Cond.code y23_ jdk_38_method_18_code 2 (some (.object c3_)) :: ws) (rM_ 0 0 0 0)) (fun a U => a = #[(.ref o0), (.int (1 : Int32))] ∧ Z.Warmed39 U.vm ∧ U.heap = h0) (fun _ _ _ _ _ => True) (fun _ U o U' => ∃ v L, o = .returned v ∧ Q28_45 Z o0 o2 o3 o4 k0 h0 n0 v U'.heap L ∧ FrameEnd U o U' L (rM_ 0 0 0 0).cells (rM_ 0 0 0 0).slots) := by
  refine MetFree.of_bodySF (plainFor_of_name pn_28) hisR ?_
  intro p e s m args below meth c s₁ Bd hml0 hP hK
  obtain ⟨rfl, hZ, hh⟩ := hP
  have hx := Bd.exec
  have hby := Bd.bytes
  have hml : c.maxLocals = 2 := hml0
  have hown : s.vm.findClass c1_ = some m.cls := findClass_of_methodNamed Bd.named
  have hnm := (name_of_methodNamed Bd.named Bd.method).1
  have X0 : Stand p l e (rM_ 0 0 0 0) s m #[(.ref o0), (.int (1 : Int32))] below meth c s₁ [] 0 0 := Stand.of_body Bd
  have e0 : s₁.heap = h0 := by rw [← hh, Bd.state]; rfl
  have N0 := Fr.nil n0
  change own_Go p e below (own_Post s (Q28_45 Z o0 o2 o3 o4 k0 h0 n0) (rM_ 0 0 0 0).cells (rM_ 0 0 0 0).slots) (s₁.setTop (entryFrame m #[(.ref o0), (.int (1 : Int32))] 2))
  refine own_by (fun t k => castTop (ef_28 m o0 (1 : Int32)) k) ?_
  show own_Go p e below _ (s₁.setTop (mkF m 0 #[rv o0, iv (1 : Int32)] []))
  refine own_by (B := s₁.setTop (mkF m 1 #[rv o0, iv (1 : Int32)] [(.ref o0)])) (fun t k => ?_) ?_
  · refine XS.aloadN X0.here hx rfl (hb hby d28_0) rfl rfl ?_
    exact k
  refine own_c1 (getF X0 hx hZ hown (host := "") (Or.inl (hW hw 110 rfl)) Via.refl e0 F_elementData_o0 rfl rfl (hb hby d28_1)) fun T1 X1 e1 => ?_
  show own_Go p e below _ (T1.setTop (mkF m 4 #[rv o0, iv (1 : Int32)] [(.ref o2)]))
  refine own_by (B := T1.setTop (mkF m 6 #[rv o0, iv (1 : Int32)] [(.ref o4)])) (fun t k => ?_) ?_
  · refine XS.iloadN X1.here hx rfl (hb hby d28_4) rfl ?_
    obtain ⟨cl2, Ar2, q2, S2, N2, H2, G2⟩ := id V_o2
    have hin2 : ¬ ((1 : Int32) < 0 ∨ cl2.slots.size ≤ ((1 : Int32)).toNatClampNeg) := inb_of S2 ⟨by decide, by decide⟩
    have hat2 : cl2.slots[((1 : Int32)).toNatClampNeg]? = some (.ref o4) := H2.at hin2 rfl
    refine X1.aaload hx (j := (1 : Int32)) (v := (.ref o4)) (by rw [show T1.heap = h0 from e1]; exact Ar2.1) (State.isArrayOf_alike hZ.alike Ar2.2.1) rfl Ar2.2.2 hin2 hat2 (g := (mkF m 5 #[rv o0, iv (1 : Int32)] [(.int (1 : Int32)), (.ref o2)])) rfl rfl (hb hby d28_5) _ ?_
    show Steps p.tables e below (T1.setTop (mkF m 6 #[rv o0, iv (1 : Int32)] [(.ref o4)])) _
    exact k
  exact own_retR X1 Bd.notSynchronized hx Bd.returns rfl rfl rfl (hb hby d28_6) (by
      try rw [show T1.heap = h0 from e1]
      exact ⟨rfl, N0, rfl⟩) dE_ dE_

def Q25_46 (Z : State) (o0 o2 : Addr) (o3 o4 : Addr) (i1 : Int32) (k0 : ClassId) (h0 : Heap) (n0 : Nat) (v : Option Value) (h : Heap) (L : List Loc) : Prop := v = some (.ref o4) ∧ Fr n0 L ∧ h = h0
set_option maxRecDepth 65536 in
set_option maxHeartbeats 40000000 in
theorem rm25_46 (l : Launch) (Z : State) (a0 : Array Value) (hw : oW_ a0 Z) (ws : List Jvm.Cond) (o0 o2 : Addr) (o3 o4 : Addr) (i1 : Int32) (k0 : ClassId) (h0 : Heap) (n0 : Nat) (Z0 : n0 ≤ h0.size) (E_o0 : Exa Z h0 o0 c1_) (F_elementData_o0 : Fld Z h0 o0 c1_ "elementData" c5_ (.ref o2)) (F_size_o0 : Fld Z h0 o0 c1_ "size" "I" (.int i1)) (V_o2 : Arv Z h0 o2 k0 (.object c3_) (2 : Int32) [(.ref o3), (.ref o4)] .null) (hp0 : (1 : Int32) < i1) :
    MetFree l y24_ (head1 (Jvm.Cond.code y24_ jdk_38_method_20_code 2 (some (.object c3_)) :: ws) (rM_ 2 0 0 27)) (fun a U => a = #[(.ref o0), (.int (1 : Int32))] ∧ Z.Warmed39 U.vm ∧ U.heap = h0) (fun _ _ _ _ _ => True) (fun _ U o U' => ∃ v L, o = .returned v ∧ Q25_46 Z o0 o2 o3 o4 i1 k0 h0 n0 v U'.heap L ∧ FrameEnd U o U' L (rM_ 2 0 0 27).cells (rM_ 2 0 0 27).slots) := by
  refine MetFree.of_bodySF (plainFor_of_name pn_25) hisR ?_
  intro p e s m args below meth c s₁ Bd hml0 hP hK
  obtain ⟨rfl, hZ, hh⟩ := hP
  have hx := Bd.exec
  have hby := Bd.bytes
  have hml : c.maxLocals = 2 := hml0
  have hown : s.vm.findClass c1_ = some m.cls := findClass_of_methodNamed Bd.named
  have hnm := (name_of_methodNamed Bd.named Bd.method).1
  have X0 : Stand p l e (rM_ 2 0 0 27) s m #[(.ref o0), (.int (1 : Int32))] below meth c s₁ [] 0 0 := Stand.of_body Bd
  have e0 : s₁.heap = h0 := by rw [← hh, Bd.state]; rfl
  have N0 := Fr.nil n0
  change own_Go p e below (own_Post s (Q25_46 Z o0 o2 o3 o4 i1 k0 h0 n0) (rM_ 2 0 0 27).cells (rM_ 2 0 0 27).slots) (s₁.setTop (entryFrame m #[(.ref o0), (.int (1 : Int32))] 2))
  refine own_by (fun t k => castTop (ef_25 m o0 (1 : Int32)) k) ?_
  show own_Go p e below _ (s₁.setTop (mkF m 0 #[rv o0, iv (1 : Int32)] []))
  refine own_by (B := s₁.setTop (mkF m 2 #[rv o0, iv (1 : Int32)] [(.ref o0), (.int (1 : Int32))])) (fun t k => ?_) ?_
  · refine XS.iloadN X0.here hx rfl (hb hby d25_0) rfl ?_
    refine XS.aloadN X0.here hx rfl (hb hby d25_1) rfl rfl ?_
    exact k
  refine own_c1 (getF X0 hx hZ hown (host := "") (Or.inl (hW hw 125 rfl)) Via.refl e0 F_size_o0 rfl rfl (hb hby d25_2)) fun T1 X1 e1 => ?_
  show own_Go p e below _ (T1.setTop (mkF m 5 #[rv o0, iv (1 : Int32)] [(.int i1), (.int (1 : Int32))]))
  refine own_cc (own_callS X1 hx hZ (y := y22_) hown (hW hw 172 rfl) (hW hw 173 rfl) (hW hw 174 rfl) (hW hw 175 rfl) dE_ (rm26_22 l Z a0 hw [] (1 : Int32) i1 h0 n0 Z0 (by decide : ¬ ((1 : Int32) < (0 : Int32))) hp0) e1 0 dE_ dE_ dE_ dE_ rfl (by rw [hml]; rfl) [(.int (1 : Int32)), (.int i1)] [] rfl (lenOf pd_7 rfl) rfl (by show 2 * 0 + _ ≤ _; exact Nat.le_of_eq rfl) (hb hby d25_5)) fun T3 L3 v3 X3 hQ3 => ?_
  obtain ⟨rfl, N3, e3⟩ := hQ3
  replace N0 := Fr.app N0 N3
  show own_Go p e below _ (T3.setTop (mkF m 8 #[rv o0, iv (1 : Int32)] [(.int (1 : Int32))]))
  refine own_by (B := T3.setTop (mkF m 11 #[rv o0, iv (1 : Int32)] [(.int (1 : Int32)), (.ref o0)])) (fun t k => ?_) ?_
  · refine XS.pop X3.here hx rfl (hb hby d25_8) rfl rfl ?_
    show Steps p.tables e below (T3.setTop (mkF m 9 #[rv o0, iv (1 : Int32)] [])) _
    refine XS.aloadN X3.here hx rfl (hb hby d25_9) rfl rfl ?_
    refine XS.iloadN X3.here hx rfl (hb hby d25_10) rfl ?_
    exact k
  refine own_cc (own_callV X3 hx hZ (y := y23_) (z := y23_) hown (hW hw 180 rfl) (hW hw 181 rfl) (notFace_of_selects (args := #[]) (mvT hZ (hW hw 183 rfl))) (hW hw 183 rfl) (hW hw 182 rfl) (hW hw 90 rfl) (hW hw 184 rfl) dE_ (rm28_45 l Z a0 hw [] o0 o2 o3 o4 k0 h0 n0 Z0 F_elementData_o0 V_o2) e3 0 dE_ dE_ dE_ dE_ rfl (by rw [hml]; rfl) o0 E_o0 [(.int (1 : Int32))] [] rfl (lenOf pd_15 rfl) rfl (by show 2 * 0 + _ ≤ _; exact Nat.le_of_eq rfl) (hb hby d25_11)) fun T5 L5 v5 X5 hQ5 => ?_
  obtain ⟨rfl, N5, e5⟩ := hQ5
  replace N0 := Fr.app N0 N5
  show own_Go p e below _ (T5.setTop (mkF m 14 #[rv o0, iv (1 : Int32)] [(.ref o4)]))
  exact own_retR X5 Bd.notSynchronized hx Bd.returns rfl rfl rfl (hb hby d25_14) (by
      try rw [show T5.heap = h0 from e5]
      exact ⟨rfl, N0, rfl⟩) dE_ dE_

def Q12_47 (Z : State) (o0 o2 : Addr) (k0 : ClassId) (j0 j1 j2 : Int64) (h0 : Heap) (n0 : Nat) (v : Option Value) (h : Heap) (L : List Loc) : Prop := v = some (.long j2) ∧ Fr n0 L ∧ h = h0
set_option maxRecDepth 65536 in
set_option maxHeartbeats 40000000 in
theorem rm12_47 (l : Launch) (Z : State) (a0 : Array Value) (hw : oW_ a0 Z) (ws : List Jvm.Cond) (o0 o2 : Addr) (k0 : ClassId) (j0 j1 j2 : Int64) (h0 : Heap) (n0 : Nat) (Z0 : n0 ≤ h0.size) (F_prices_o0 : Fld Z h0 o0 c0_ "prices" "[J" (.ref o2)) (F_best_o0 : Fld Z h0 o0 c0_ "best" "I" (.int (2 : Int32))) (V_o2 : Arv Z h0 o2 k0 .long (8 : Int32) [(.long j0), (.long j1), (.long j2)] oY) :
    MetFree l y5_ (head1 (Jvm.Cond.code y5_ prog_3_method_2_code 1 (some .long) :: ws) (rM_ 0 0 0 0)) (fun a U => a = #[(.ref o0)] ∧ Z.Warmed39 U.vm ∧ U.heap = h0) (fun _ _ _ _ _ => True) (fun _ U o U' => ∃ v L, o = .returned v ∧ Q12_47 Z o0 o2 k0 j0 j1 j2 h0 n0 v U'.heap L ∧ FrameEnd U o U' L (rM_ 0 0 0 0).cells (rM_ 0 0 0 0).slots) := by
  refine MetFree.of_bodySF (plainFor_of_name pn_12) hisR ?_
  intro p e s m args below meth c s₁ Bd hml0 hP hK
  obtain ⟨rfl, hZ, hh⟩ := hP
  have hx := Bd.exec
  have hby := Bd.bytes
  have hml : c.maxLocals = 1 := hml0
  have hown : s.vm.findClass c0_ = some m.cls := findClass_of_methodNamed Bd.named
  have hnm := (name_of_methodNamed Bd.named Bd.method).1
  have X0 : Stand p l e (rM_ 0 0 0 0) s m #[(.ref o0)] below meth c s₁ [] 0 0 := Stand.of_body Bd
  have e0 : s₁.heap = h0 := by rw [← hh, Bd.state]; rfl
  have N0 := Fr.nil n0
  change own_Go p e below (own_Post s (Q12_47 Z o0 o2 k0 j0 j1 j2 h0 n0) (rM_ 0 0 0 0).cells (rM_ 0 0 0 0).slots) (s₁.setTop (entryFrame m #[(.ref o0)] 1))
  refine own_by (fun t k => castTop (ef_12 m o0) k) ?_
  show own_Go p e below _ (s₁.setTop (mkF m 0 #[rv o0] []))
  refine own_by (B := s₁.setTop (mkF m 1 #[rv o0] [(.ref o0)])) (fun t k => ?_) ?_
  · refine XS.aloadN X0.here hx rfl (hb hby d12_0) rfl rfl ?_
    exact k
  refine own_c1 (getF X0 hx hZ hown (host := "") (Or.inl (hW hw 11 rfl)) Via.refl e0 F_prices_o0 rfl rfl (hb hby d12_1)) fun T1 X1 e1 => ?_
  show own_Go p e below _ (T1.setTop (mkF m 4 #[rv o0] [(.ref o2)]))
  refine own_by (B := T1.setTop (mkF m 5 #[rv o0] [(.ref o0), (.ref o2)])) (fun t k => ?_) ?_
  · refine XS.aloadN X1.here hx rfl (hb hby d12_4) rfl rfl ?_
    exact k
  refine own_c1 (getF X1 hx hZ hown (host := "") (Or.inl (hW hw 25 rfl)) Via.refl e1 F_best_o0 rfl rfl (hb hby d12_5)) fun T2 X2 e2 => ?_
  show own_Go p e below _ (T2.setTop (mkF m 8 #[rv o0] [(.int (2 : Int32)), (.ref o2)]))
  refine own_by (B := T2.setTop (mkF m 9 #[rv o0] [(.long j2)])) (fun t k => ?_) ?_
  · obtain ⟨cl3, Ar3, q3, S3, N3, H3, G3⟩ := id V_o2
    have hin3 : ¬ ((2 : Int32) < 0 ∨ cl3.slots.size ≤ ((2 : Int32)).toNatClampNeg) := inb_of S3 ⟨by decide, by decide⟩
    have hat3 : cl3.slots[((2 : Int32)).toNatClampNeg]? = some (.long j2) := H3.at hin3 rfl
    refine X2.laload hx (j := (2 : Int32)) (v := (.long j2)) (by rw [show T2.heap = h0 from e2]; exact Ar3.1) (State.isArrayOf_alike hZ.alike Ar3.2.1) Ar3.2.2 hin3 hat3 (g := (mkF m 8 #[rv o0] [(.int (2 : Int32)), (.ref o2)])) rfl rfl (hb hby d12_8) _ ?_
    show Steps p.tables e below (T2.setTop (mkF m 9 #[rv o0] [(.long j2)])) _
    exact k
  exact own_retL X2 Bd.notSynchronized hx Bd.returns (hb hby d12_9) (by
      try rw [show T2.heap = h0 from e2]
      exact ⟨rfl, N0, rfl⟩) dE_ dE_

def Q13_48 (Z : State) (o0 o3 : Addr) (k1 : ClassId) (j3 j4 j5 : Int64) (h0 : Heap) (n0 : Nat) (v : Option Value) (h : Heap) (L : List Loc) : Prop := v = some (.long j5) ∧ Fr n0 L ∧ h = h0
set_option maxRecDepth 65536 in
set_option maxHeartbeats 40000000 in
theorem rm13_48 (l : Launch) (Z : State) (a0 : Array Value) (hw : oW_ a0 Z) (ws : List Jvm.Cond) (o0 o3 : Addr) (k1 : ClassId) (j3 j4 j5 : Int64) (h0 : Heap) (n0 : Nat) (Z0 : n0 ≤ h0.size) (F_sizes_o0 : Fld Z h0 o0 c0_ "sizes" "[J" (.ref o3)) (F_best_o0 : Fld Z h0 o0 c0_ "best" "I" (.int (2 : Int32))) (V_o3 : Arv Z h0 o3 k1 .long (8 : Int32) [(.long j3), (.long j4), (.long j5)] oY) :
    MetFree l y6_ (head1 (Jvm.Cond.code y6_ prog_3_method_3_code 1 (some .long) :: ws) (rM_ 0 0 0 0)) (fun a U => a = #[(.ref o0)] ∧ Z.Warmed39 U.vm ∧ U.heap = h0) (fun _ _ _ _ _ => True) (fun _ U o U' => ∃ v L, o = .returned v ∧ Q13_48 Z o0 o3 k1 j3 j4 j5 h0 n0 v U'.heap L ∧ FrameEnd U o U' L (rM_ 0 0 0 0).cells (rM_ 0 0 0 0).slots) := by
  refine MetFree.of_bodySF (plainFor_of_name pn_13) hisR ?_
  intro p e s m args below meth c s₁ Bd hml0 hP hK
  obtain ⟨rfl, hZ, hh⟩ := hP
  have hx := Bd.exec
  have hby := Bd.bytes
  have hml : c.maxLocals = 1 := hml0
  have hown : s.vm.findClass c0_ = some m.cls := findClass_of_methodNamed Bd.named
  have hnm := (name_of_methodNamed Bd.named Bd.method).1
  have X0 : Stand p l e (rM_ 0 0 0 0) s m #[(.ref o0)] below meth c s₁ [] 0 0 := Stand.of_body Bd
  have e0 : s₁.heap = h0 := by rw [← hh, Bd.state]; rfl
  have N0 := Fr.nil n0
  change own_Go p e below (own_Post s (Q13_48 Z o0 o3 k1 j3 j4 j5 h0 n0) (rM_ 0 0 0 0).cells (rM_ 0 0 0 0).slots) (s₁.setTop (entryFrame m #[(.ref o0)] 1))
  refine own_by (fun t k => castTop (ef_13 m o0) k) ?_
  show own_Go p e below _ (s₁.setTop (mkF m 0 #[rv o0] []))
  refine own_by (B := s₁.setTop (mkF m 1 #[rv o0] [(.ref o0)])) (fun t k => ?_) ?_
  · refine XS.aloadN X0.here hx rfl (hb hby d13_0) rfl rfl ?_
    exact k
  refine own_c1 (getF X0 hx hZ hown (host := "") (Or.inl (hW hw 13 rfl)) Via.refl e0 F_sizes_o0 rfl rfl (hb hby d13_1)) fun T1 X1 e1 => ?_
  show own_Go p e below _ (T1.setTop (mkF m 4 #[rv o0] [(.ref o3)]))
  refine own_by (B := T1.setTop (mkF m 5 #[rv o0] [(.ref o0), (.ref o3)])) (fun t k => ?_) ?_
  · refine XS.aloadN X1.here hx rfl (hb hby d13_4) rfl rfl ?_
    exact k
  refine own_c1 (getF X1 hx hZ hown (host := "") (Or.inl (hW hw 25 rfl)) Via.refl e1 F_best_o0 rfl rfl (hb hby d13_5)) fun T2 X2 e2 => ?_
  show own_Go p e below _ (T2.setTop (mkF m 8 #[rv o0] [(.int (2 : Int32)), (.ref o3)]))
  refine own_by (B := T2.setTop (mkF m 9 #[rv o0] [(.long j5)])) (fun t k => ?_) ?_
  · obtain ⟨cl3, Ar3, q3, S3, N3, H3, G3⟩ := id V_o3
    have hin3 : ¬ ((2 : Int32) < 0 ∨ cl3.slots.size ≤ ((2 : Int32)).toNatClampNeg) := inb_of S3 ⟨by decide, by decide⟩
    have hat3 : cl3.slots[((2 : Int32)).toNatClampNeg]? = some (.long j5) := H3.at hin3 rfl
    refine X2.laload hx (j := (2 : Int32)) (v := (.long j5)) (by rw [show T2.heap = h0 from e2]; exact Ar3.1) (State.isArrayOf_alike hZ.alike Ar3.2.1) Ar3.2.2 hin3 hat3 (g := (mkF m 8 #[rv o0] [(.int (2 : Int32)), (.ref o3)])) rfl rfl (hb hby d13_8) _ ?_
    show Steps p.tables e below (T2.setTop (mkF m 9 #[rv o0] [(.long j5)])) _
    exact k
  exact own_retL X2 Bd.notSynchronized hx Bd.returns (hb hby d13_9) (by
      try rw [show T2.heap = h0 from e2]
      exact ⟨rfl, N0, rfl⟩) dE_ dE_

def Q4_49 (Z : State) (o0 : Addr) (i0 : Int32) (j0 j1 : Int64) (o2 o3 : Addr) (o4 o5 o6 : Addr) (i1 i2 : Int32) (i3 i4 i5 : Int32) (k0 : ClassId) (j2 j3 j4 : Int64) (k1 : ClassId) (j5 j6 j7 : Int64) (k2 : ClassId) (i6 i7 i8 : Int32) (k3 : ClassId) (i9 i10 : Int32) (k4 : ClassId) (i11 i12 i13 : Int32) (h0 : Heap) (n0 : Nat) (v : Option Value) (h : Heap) (L : List Loc) : Prop := v = some (.int (2 : Int32)) ∧ Fr n0 L ∧ Keep h0 h [o6, o5, o4, o3, o2, o0] ∧ Arv Z h o6 k4 .byte (8 : Int32) [(.int i11), (.int i12), (.int (1 : Int32))] oZ ∧ Arv Z h o5 k3 .int (8 : Int32) [(.int i9), (.int i0), oZ] oZ ∧ Arv Z h o4 k2 .int (8 : Int32) [(.int i6), (.int i7), oZ] oZ ∧ Arv Z h o3 k1 .long (8 : Int32) [(.long j5), (.long j6), (.long j1)] oY ∧ Arv Z h o2 k0 .long (8 : Int32) [(.long j2), (.long j3), (.long j0)] oY ∧ Exa Z h o0 c0_ ∧ Fld Z h o0 c0_ "prices" "[J" (.ref o2) ∧ Fld Z h o0 c0_ "sizes" "[J" (.ref o3) ∧ Fld Z h o0 c0_ "left" "[I" (.ref o4) ∧ Fld Z h o0 c0_ "right" "[I" (.ref o5) ∧ Fld Z h o0 c0_ "heights" "[B" (.ref o6) ∧ Fld Z h o0 c0_ "root" "I" (.int i1) ∧ Fld Z h o0 c0_ "best" "I" (.int i2) ∧ Fld Z h o0 c0_ "unused" "I" (.int (3 : Int32)) ∧ Fld Z h o0 c0_ "free" "I" (.int i3) ∧ Fld Z h o0 c0_ "count" "I" (.int (i4 + (1 : Int32))) ∧ Fld Z h o0 c0_ "highestFirst" "Z" (.int i5)
set_option maxRecDepth 65536 in
set_option maxHeartbeats 40000000 in
theorem rm4_49 (l : Launch) (Z : State) (a0 : Array Value) (hw : oW_ a0 Z) (ws : List Jvm.Cond) (o0 : Addr) (i0 : Int32) (j0 j1 : Int64) (o2 o3 : Addr) (o4 o5 o6 : Addr) (i1 i2 : Int32) (i3 i4 i5 : Int32) (k0 : ClassId) (j2 j3 j4 : Int64) (k1 : ClassId) (j5 j6 j7 : Int64) (k2 : ClassId) (i6 i7 i8 : Int32) (k3 : ClassId) (i9 i10 : Int32) (k4 : ClassId) (i11 i12 i13 : Int32) (h0 : Heap) (n0 : Nat) (Z0 : n0 ≤ h0.size) (E_o0 : Exa Z h0 o0 c0_) (g_o0 : n0 ≤ o0) (F_prices_o0 : Fld Z h0 o0 c0_ "prices" "[J" (.ref o2)) (F_sizes_o0 : Fld Z h0 o0 c0_ "sizes" "[J" (.ref o3)) (F_left_o0 : Fld Z h0 o0 c0_ "left" "[I" (.ref o4)) (F_right_o0 : Fld Z h0 o0 c0_ "right" "[I" (.ref o5)) (F_heights_o0 : Fld Z h0 o0 c0_ "heights" "[B" (.ref o6)) (F_root_o0 : Fld Z h0 o0 c0_ "root" "I" (.int i1)) (F_best_o0 : Fld Z h0 o0 c0_ "best" "I" (.int i2)) (F_unused_o0 : Fld Z h0 o0 c0_ "unused" "I" (.int (2 : Int32))) (F_free_o0 : Fld Z h0 o0 c0_ "free" "I" (.int i3)) (F_count_o0 : Fld Z h0 o0 c0_ "count" "I" (.int i4)) (F_highestFirst_o0 : Fld Z h0 o0 c0_ "highestFirst" "Z" (.int i5)) (g_o2 : n0 ≤ o2) (V_o2 : Arv Z h0 o2 k0 .long (8 : Int32) [(.long j2), (.long j3), (.long j4)] oY) (g_o3 : n0 ≤ o3) (V_o3 : Arv Z h0 o3 k1 .long (8 : Int32) [(.long j5), (.long j6), (.long j7)] oY) (g_o4 : n0 ≤ o4) (V_o4 : Arv Z h0 o4 k2 .int (8 : Int32) [(.int i6), (.int i7), (.int i8)] oZ) (g_o5 : n0 ≤ o5) (V_o5 : Arv Z h0 o5 k3 .int (8 : Int32) [(.int i9), (.int i0), (.int i10)] oZ) (g_o6 : n0 ≤ o6) (V_o6 : Arv Z h0 o6 k4 .byte (8 : Int32) [(.int i11), (.int i12), (.int i13)] oZ) (hp0 : i0 = (0 : Int32)) (hp1 : i3 = (0 : Int32)) (ne_o3_o2 : o3 ≠ o2) (ne_o4_o2 : o4 ≠ o2) (ne_o5_o2 : o5 ≠ o2) (ne_o6_o2 : o6 ≠ o2) (ne_o4_o3 : o4 ≠ o3) (ne_o5_o3 : o5 ≠ o3) (ne_o6_o3 : o6 ≠ o3) (ne_o5_o4 : o5 ≠ o4) (ne_o6_o4 : o6 ≠ o4) (ne_o6_o5 : o6 ≠ o5) :
    MetFree l y14_ (head1 (Jvm.Cond.code y14_ prog_3_method_8_code 7 (some .int) :: ws) (rM_ 1 0 0 17)) (fun a U => a = #[(.ref o0), (.int i0), (.long j0), (.long j1)] ∧ Z.Warmed39 U.vm ∧ U.heap = h0) (fun _ _ _ _ _ => True) (fun _ U o U' => ∃ v L, o = .returned v ∧ Q4_49 Z o0 i0 j0 j1 o2 o3 o4 o5 o6 i1 i2 i3 i4 i5 k0 j2 j3 j4 k1 j5 j6 j7 k2 i6 i7 i8 k3 i9 i10 k4 i11 i12 i13 h0 n0 v U'.heap L ∧ FrameEnd U o U' L (rM_ 1 0 0 17).cells (rM_ 1 0 0 17).slots) := by
  refine MetFree.of_bodySF (plainFor_of_name pn_4) hisR ?_
  intro p e s m args below meth c s₁ Bd hml0 hP hK
  obtain ⟨rfl, hZ, hh⟩ := hP
  have hx := Bd.exec
  have hby := Bd.bytes
  have hml : c.maxLocals = 7 := hml0
  have hown : s.vm.findClass c0_ = some m.cls := findClass_of_methodNamed Bd.named
  have hnm := (name_of_methodNamed Bd.named Bd.method).1
  have X0 : Stand p l e (rM_ 1 0 0 17) s m #[(.ref o0), (.int i0), (.long j0), (.long j1)] below meth c s₁ [] 0 0 := Stand.of_body Bd
  have e0 : s₁.heap = h0 := by rw [← hh, Bd.state]; rfl
  have N0 := Fr.nil n0
  have K0 : Keep h0 h0 [o6, o5, o4, o3, o2, o0] := Keep.refl h0 _
  change own_Go p e below (own_Post s (Q4_49 Z o0 i0 j0 j1 o2 o3 o4 o5 o6 i1 i2 i3 i4 i5 k0 j2 j3 j4 k1 j5 j6 j7 k2 i6 i7 i8 k3 i9 i10 k4 i11 i12 i13 h0 n0) (rM_ 1 0 0 17).cells (rM_ 1 0 0 17).slots) (s₁.setTop (entryFrame m #[(.ref o0), (.int i0), (.long j0), (.long j1)] 7))
  refine own_by (fun t k => castTop (ef_4 m o0 i0 j0 j1) k) ?_
  show own_Go p e below _ (s₁.setTop (mkF m 0 (lA3_ o0 i0 j0 j1) []))
  refine own_by (B := s₁.setTop (mkF m 8 (lA3_ o0 i0 j0 j1) [(.long j1), (.long j0), (.ref o0)])) (fun t k => ?_) ?_
  · refine XS.iloadN X0.here hx rfl (hb hby d4_0) rfl ?_
    refine XS.ifNo X0.here hx rfl (hb hby d4_1) rfl ((if0 _ _).trans (teq hp0).2) ?_
    show Steps p.tables e below (s₁.setTop (mkF m 4 (lA3_ o0 i0 j0 j1) [])) _
    refine XS.aloadN X0.here hx rfl (hb hby d4_4) rfl rfl ?_
    refine XS.lloadN X0.here hx rfl (hb hby d4_5) rfl ?_
    refine XS.lload X0.here hx rfl (hb hby d4_6) rfl ?_
    exact k
  refine own_cc (own_callP X0 hx hZ (y := y13_) hown (hW hw 42 rfl) (hW hw 43 rfl) (hW hw 3 rfl) (hW hw 45 rfl) (hW hw 44 rfl) (hW hw 2 rfl) dE_ (rm5_29 l Z a0 hw [] o0 j0 j1 o2 o3 o4 o5 o6 i1 i2 i3 i4 i5 k0 j2 j3 j4 k1 j5 j6 j7 k2 i6 i7 i8 k3 i9 i0 i10 k4 i11 i12 i13 h0 n0 Z0 E_o0 g_o0 F_prices_o0 F_sizes_o0 F_left_o0 F_right_o0 F_heights_o0 F_root_o0 F_best_o0 F_unused_o0 F_free_o0 F_count_o0 F_highestFirst_o0 g_o2 V_o2 g_o3 V_o3 g_o4 V_o4 g_o5 V_o5 g_o6 V_o6 hp1 ne_o3_o2 ne_o4_o2 ne_o5_o2 ne_o6_o2 ne_o4_o3 ne_o5_o3 ne_o6_o3 ne_o5_o4 ne_o6_o4 ne_o6_o5) e0 0 dE_ dE_ dE_ dE_ rfl (by rw [hml]; rfl) o0 E_o0 [(.long j0), (.long j1)] [] rfl (lenOf pd_4 rfl) rfl (by show 2 * 0 + _ ≤ _; exact Nat.le_of_eq rfl) (hb hby d4_8)) fun T2 L2 v2 X2 hQ2 => ?_
  obtain ⟨rfl, N2, K2, E_o0', F_prices_o0', F_sizes_o0', F_left_o0', F_right_o0', F_heights_o0', F_root_o0', F_best_o0', F_unused_o0', F_free_o0', F_count_o0', F_highestFirst_o0', V_o2', V_o3', V_o4', V_o5', V_o6'⟩ := hQ2
  replace N0 := Fr.app N0 N2
  replace E_o0 := E_o0.keep K2
  replace K0 := K0.trans K2 (allS (Or.inl (List.mem_of_getElem? (i := 5) rfl)) (allS (Or.inl (List.mem_of_getElem? (i := 4) rfl)) (allS (Or.inl (List.mem_of_getElem? (i := 3) rfl)) (allS (Or.inl (List.mem_of_getElem? (i := 2) rfl)) (allS (Or.inl (List.mem_of_getElem? (i := 1) rfl)) (allS (Or.inl (List.mem_of_getElem? (i := 0) rfl)) all0))))))
  replace Z0 := Nat.le_trans Z0 K2.1
  replace E_o0 := E_o0'
  have F_prices_o0 := F_prices_o0'
  have F_sizes_o0 := F_sizes_o0'
  have F_left_o0 := F_left_o0'
  have F_right_o0 := F_right_o0'
  have F_heights_o0 := F_heights_o0'
  have F_root_o0 := F_root_o0'
  have F_best_o0 := F_best_o0'
  have F_unused_o0 := F_unused_o0'
  have F_free_o0 := F_free_o0'
  have F_count_o0 := F_count_o0'
  have F_highestFirst_o0 := F_highestFirst_o0'
  have V_o2 := V_o2'
  have V_o3 := V_o3'
  have V_o4 := V_o4'
  have V_o5 := V_o5'
  have V_o6 := V_o6'
  show own_Go p e below _ (T2.setTop (mkF m 11 (lA3_ o0 i0 j0 j1) [(.int (2 : Int32))]))
  exact own_retI X2 Bd.notSynchronized hx Bd.returns (hb hby d4_11) ⟨rfl, N0, K0, V_o6, V_o5, V_o4, V_o3, V_o2, E_o0, F_prices_o0, F_sizes_o0, F_left_o0, F_right_o0, F_heights_o0, F_root_o0, F_best_o0, F_unused_o0, F_free_o0, F_count_o0, F_highestFirst_o0⟩ dE_ dE_

def Q9_50 (Z : State) (o0 o4 : Addr) (o5 o6 : Addr) (k2 : ClassId) (i6 i7 : Int32) (k3 : ClassId) (i8 i9 : Int32) (k4 : ClassId) (i10 i11 i12 : Int32) (h0 : Heap) (n0 : Nat) (v : Option Value) (h : Heap) (L : List Loc) : Prop := v = none ∧ Fr n0 L ∧ Keep h0 h [o6] ∧ Arv Z h o6 k4 .byte (8 : Int32) [(.int i10), (.int (nar .byte (((1 : Int32) + (fmaxI i10 i12)).toInt8.toInt32))), (.int i12)] oZ
set_option maxRecDepth 65536 in
set_option maxHeartbeats 40000000 in
theorem rm9_50 (l : Launch) (Z : State) (a0 : Array Value) (hw : oW_ a0 Z) (ws : List Jvm.Cond) (o0 o4 : Addr) (o5 o6 : Addr) (k2 : ClassId) (i6 i7 : Int32) (k3 : ClassId) (i8 i9 : Int32) (k4 : ClassId) (i10 i11 i12 : Int32) (h0 : Heap) (n0 : Nat) (Z0 : n0 ≤ h0.size) (F_left_o0 : Fld Z h0 o0 c0_ "left" "[I" (.ref o4)) (F_right_o0 : Fld Z h0 o0 c0_ "right" "[I" (.ref o5)) (F_heights_o0 : Fld Z h0 o0 c0_ "heights" "[B" (.ref o6)) (V_o4 : Arv Z h0 o4 k2 .int (8 : Int32) [(.int i6), oZ, (.int i7)] oZ) (V_o5 : Arv Z h0 o5 k3 .int (8 : Int32) [(.int i8), (.int (2 : Int32)), (.int i9)] oZ) (g_o6 : n0 ≤ o6) (V_o6 : Arv Z h0 o6 k4 .byte (8 : Int32) [(.int i10), (.int i11), (.int i12)] oZ) (ne_o0_o6 : o0 ≠ o6) (ne_o4_o6 : o4 ≠ o6) (ne_o5_o6 : o5 ≠ o6) :
    MetFree l y27_ (head1 (Jvm.Cond.code y27_ prog_3_method_13_code 2 none :: ws) (rM_ 1 0 0 16)) (fun a U => a = #[(.ref o0), (.int (1 : Int32))] ∧ Z.Warmed39 U.vm ∧ U.heap = h0) (fun _ _ _ _ _ => True) (fun _ U o U' => ∃ v L, o = .returned v ∧ Q9_50 Z o0 o4 o5 o6 k2 i6 i7 k3 i8 i9 k4 i10 i11 i12 h0 n0 v U'.heap L ∧ FrameEnd U o U' L (rM_ 1 0 0 16).cells (rM_ 1 0 0 16).slots) := by
  refine MetFree.of_bodySF (plainFor_of_name pn_9) hisR ?_
  intro p e s m args below meth c s₁ Bd hml0 hP hK
  obtain ⟨rfl, hZ, hh⟩ := hP
  have hx := Bd.exec
  have hby := Bd.bytes
  have hml : c.maxLocals = 2 := hml0
  have hown : s.vm.findClass c0_ = some m.cls := findClass_of_methodNamed Bd.named
  have hnm := (name_of_methodNamed Bd.named Bd.method).1
  have X0 : Stand p l e (rM_ 1 0 0 16) s m #[(.ref o0), (.int (1 : Int32))] below meth c s₁ [] 0 0 := Stand.of_body Bd
  have e0 : s₁.heap = h0 := by rw [← hh, Bd.state]; rfl
  have N0 := Fr.nil n0
  have K0 : Keep h0 h0 [o6] := Keep.refl h0 _
  change own_Go p e below (own_Post s (Q9_50 Z o0 o4 o5 o6 k2 i6 i7 k3 i8 i9 k4 i10 i11 i12 h0 n0) (rM_ 1 0 0 16).cells (rM_ 1 0 0 16).slots) (s₁.setTop (entryFrame m #[(.ref o0), (.int (1 : Int32))] 2))
  refine own_by (fun t k => castTop (ef_9 m o0 (1 : Int32)) k) ?_
  show own_Go p e below _ (s₁.setTop (mkF m 0 #[rv o0, iv (1 : Int32)] []))
  refine own_by (B := s₁.setTop (mkF m 1 #[rv o0, iv (1 : Int32)] [(.ref o0)])) (fun t k => ?_) ?_
  · refine XS.aloadN X0.here hx rfl (hb hby d9_0) rfl rfl ?_
    exact k
  refine own_c1 (getF X0 hx hZ hown (host := "") (Or.inl (hW hw 21 rfl)) Via.refl e0 F_heights_o0 rfl rfl (hb hby d9_1)) fun T1 X1 e1 => ?_
  show own_Go p e below _ (T1.setTop (mkF m 4 #[rv o0, iv (1 : Int32)] [(.ref o6)]))
  refine own_by (B := T1.setTop (mkF m 7 #[rv o0, iv (1 : Int32)] [(.ref o0), (.int (1 : Int32)), (.int (1 : Int32)), (.ref o6)])) (fun t k => ?_) ?_
  · refine XS.iloadN X1.here hx rfl (hb hby d9_4) rfl ?_
    refine XS.iconst X1.here hx rfl (hb hby d9_5) ?_
    refine XS.aloadN X1.here hx rfl (hb hby d9_6) rfl rfl ?_
    exact k
  refine own_c1 (getF X1 hx hZ hown (host := "") (Or.inl (hW hw 21 rfl)) Via.refl e1 F_heights_o0 rfl rfl (hb hby d9_7)) fun T2 X2 e2 => ?_
  show own_Go p e below _ (T2.setTop (mkF m 10 #[rv o0, iv (1 : Int32)] [(.ref o6), (.int (1 : Int32)), (.int (1 : Int32)), (.ref o6)]))
  refine own_by (B := T2.setTop (mkF m 11 #[rv o0, iv (1 : Int32)] [(.ref o0), (.ref o6), (.int (1 : Int32)), (.int (1 : Int32)), (.ref o6)])) (fun t k => ?_) ?_
  · refine XS.aloadN X2.here hx rfl (hb hby d9_10) rfl rfl ?_
    exact k
  refine own_c1 (getF X2 hx hZ hown (host := "") (Or.inl (hW hw 16 rfl)) Via.refl e2 F_left_o0 rfl rfl (hb hby d9_11)) fun T3 X3 e3 => ?_
  show own_Go p e below _ (T3.setTop (mkF m 14 #[rv o0, iv (1 : Int32)] [(.ref o4), (.ref o6), (.int (1 : Int32)), (.int (1 : Int32)), (.ref o6)]))
  refine own_by (B := T3.setTop (mkF m 18 #[rv o0, iv (1 : Int32)] [(.ref o0), (.int i10), (.int (1 : Int32)), (.int (1 : Int32)), (.ref o6)])) (fun t k => ?_) ?_
  · refine XS.iloadN X3.here hx rfl (hb hby d9_14) rfl ?_
    obtain ⟨cl4, Ar4, q4, S4, N4, H4, G4⟩ := id V_o4
    have hin4 : ¬ ((1 : Int32) < 0 ∨ cl4.slots.size ≤ ((1 : Int32)).toNatClampNeg) := inb_of S4 ⟨by decide, by decide⟩
    have hat4 : cl4.slots[((1 : Int32)).toNatClampNeg]? = some oZ := H4.at hin4 rfl
    refine X3.iaload hx (j := (1 : Int32)) (v := oZ) (by rw [show T3.heap = h0 from e3]; exact Ar4.1) (State.isArrayOf_alike hZ.alike Ar4.2.1) Ar4.2.2 hin4 hat4 (g := (mkF m 15 #[rv o0, iv (1 : Int32)] [(.int (1 : Int32)), (.ref o4), (.ref o6), (.int (1 : Int32)), (.int (1 : Int32)), (.ref o6)])) rfl rfl (hb hby d9_15) _ ?_
    show Steps p.tables e below (T3.setTop (mkF m 16 #[rv o0, iv (1 : Int32)] [oZ, (.ref o6), (.int (1 : Int32)), (.int (1 : Int32)), (.ref o6)])) _
    obtain ⟨cl5, Ar5, q5, S5, N5, H5, G5⟩ := id V_o6
    have hin5 : ¬ ((0 : Int32) < 0 ∨ cl5.slots.size ≤ ((0 : Int32)).toNatClampNeg) := inb_of S5 ⟨by decide, by decide⟩
    have hat5 : cl5.slots[((0 : Int32)).toNatClampNeg]? = some (.int i10) := H5.at hin5 rfl
    refine X3.baloadBytes hx (j := (0 : Int32)) (v := (.int i10)) (by rw [show T3.heap = h0 from e3]; exact Ar5.1) (State.isArrayOf_alike hZ.alike Ar5.2.1) Ar5.2.2 hin5 hat5 (g := (mkF m 16 #[rv o0, iv (1 : Int32)] [oZ, (.ref o6), (.int (1 : Int32)), (.int (1 : Int32)), (.ref o6)])) rfl rfl (hb hby d9_16) _ ?_
    show Steps p.tables e below (T3.setTop (mkF m 17 #[rv o0, iv (1 : Int32)] [(.int i10), (.int (1 : Int32)), (.int (1 : Int32)), (.ref o6)])) _
    refine XS.aloadN X3.here hx rfl (hb hby d9_17) rfl rfl ?_
    exact k
  refine own_c1 (getF X3 hx hZ hown (host := "") (Or.inl (hW hw 21 rfl)) Via.refl e3 F_heights_o0 rfl rfl (hb hby d9_18)) fun T6 X6 e6 => ?_
  show own_Go p e below _ (T6.setTop (mkF m 21 #[rv o0, iv (1 : Int32)] [(.ref o6), (.int i10), (.int (1 : Int32)), (.int (1 : Int32)), (.ref o6)]))
  refine own_by (B := T6.setTop (mkF m 22 #[rv o0, iv (1 : Int32)] [(.ref o0), (.ref o6), (.int i10), (.int (1 : Int32)), (.int (1 : Int32)), (.ref o6)])) (fun t k => ?_) ?_
  · refine XS.aloadN X6.here hx rfl (hb hby d9_21) rfl rfl ?_
    exact k
  refine own_c1 (getF X6 hx hZ hown (host := "") (Or.inl (hW hw 18 rfl)) Via.refl e6 F_right_o0 rfl rfl (hb hby d9_22)) fun T7 X7 e7 => ?_
  show own_Go p e below _ (T7.setTop (mkF m 25 #[rv o0, iv (1 : Int32)] [(.ref o5), (.ref o6), (.int i10), (.int (1 : Int32)), (.int (1 : Int32)), (.ref o6)]))
  refine own_by (B := T7.setTop (mkF m 28 #[rv o0, iv (1 : Int32)] [(.int i12), (.int i10), (.int (1 : Int32)), (.int (1 : Int32)), (.ref o6)])) (fun t k => ?_) ?_
  · refine XS.iloadN X7.here hx rfl (hb hby d9_25) rfl ?_
    obtain ⟨cl8, Ar8, q8, S8, N8, H8, G8⟩ := id V_o5
    have hin8 : ¬ ((1 : Int32) < 0 ∨ cl8.slots.size ≤ ((1 : Int32)).toNatClampNeg) := inb_of S8 ⟨by decide, by decide⟩
    have hat8 : cl8.slots[((1 : Int32)).toNatClampNeg]? = some (.int (2 : Int32)) := H8.at hin8 rfl
    refine X7.iaload hx (j := (1 : Int32)) (v := (.int (2 : Int32))) (by rw [show T7.heap = h0 from e7]; exact Ar8.1) (State.isArrayOf_alike hZ.alike Ar8.2.1) Ar8.2.2 hin8 hat8 (g := (mkF m 26 #[rv o0, iv (1 : Int32)] [(.int (1 : Int32)), (.ref o5), (.ref o6), (.int i10), (.int (1 : Int32)), (.int (1 : Int32)), (.ref o6)])) rfl rfl (hb hby d9_26) _ ?_
    show Steps p.tables e below (T7.setTop (mkF m 27 #[rv o0, iv (1 : Int32)] [(.int (2 : Int32)), (.ref o6), (.int i10), (.int (1 : Int32)), (.int (1 : Int32)), (.ref o6)])) _
    obtain ⟨cl9, Ar9, q9, S9, N9, H9, G9⟩ := id V_o6
    have hin9 : ¬ ((2 : Int32) < 0 ∨ cl9.slots.size ≤ ((2 : Int32)).toNatClampNeg) := inb_of S9 ⟨by decide, by decide⟩
    have hat9 : cl9.slots[((2 : Int32)).toNatClampNeg]? = some (.int i12) := H9.at hin9 rfl
    refine X7.baloadBytes hx (j := (2 : Int32)) (v := (.int i12)) (by rw [show T7.heap = h0 from e7]; exact Ar9.1) (State.isArrayOf_alike hZ.alike Ar9.2.1) Ar9.2.2 hin9 hat9 (g := (mkF m 27 #[rv o0, iv (1 : Int32)] [(.int (2 : Int32)), (.ref o6), (.int i10), (.int (1 : Int32)), (.int (1 : Int32)), (.ref o6)])) rfl rfl (hb hby d9_27) _ ?_
    show Steps p.tables e below (T7.setTop (mkF m 28 #[rv o0, iv (1 : Int32)] [(.int i12), (.int i10), (.int (1 : Int32)), (.int (1 : Int32)), (.ref o6)])) _
    exact k
  refine own_cc (own_callS X7 hx hZ (y := y1_) hown (hW hw 64 rfl) (hW hw 65 rfl) (hW hw 66 rfl) (hW hw 67 rfl) dE_ (rm10 l Z a0 hw [] i10 i12 h0 n0 Z0 ) e7 3 dE_ dE_ dE_ dE_ rfl (by rw [hml]; rfl) [(.int i10), (.int i12)] [(.int (1 : Int32)), (.int (1 : Int32)), (.ref o6)] rfl (lenOf pd_7 rfl) rfl (by show 2 * 0 + _ ≤ _; exact Nat.le_of_eq rfl) (hb hby d9_28)) fun T11 L11 v11 X11 hQ11 => ?_
  obtain ⟨rfl, N11, e11⟩ := hQ11
  replace N0 := Fr.app N0 N11
  show own_Go p e below _ (T11.setTop (mkF m 31 #[rv o0, iv (1 : Int32)] [(.int (fmaxI i10 i12)), (.int (1 : Int32)), (.int (1 : Int32)), (.ref o6)]))
  refine own_by (B := T11.setTop (mkF m 33 #[rv o0, iv (1 : Int32)] [(.int (((1 : Int32) + (fmaxI i10 i12)).toInt8.toInt32)), (.int (1 : Int32)), (.ref o6)])) (fun t k => ?_) ?_
  · refine XS.iadd X11.here hx rfl (hb hby d9_31) rfl ?_
    show Steps p.tables e below (T11.setTop (mkF m 32 #[rv o0, iv (1 : Int32)] [(.int ((1 : Int32) + (fmaxI i10 i12))), (.int (1 : Int32)), (.ref o6)])) _
    refine XS.i2b X11.here hx rfl (hb hby d9_32) rfl ?_
    show Steps p.tables e below (T11.setTop (mkF m 33 #[rv o0, iv (1 : Int32)] [(.int (((1 : Int32) + (fmaxI i10 i12)).toInt8.toInt32)), (.int (1 : Int32)), (.ref o6)])) _
    exact k
  obtain ⟨cl12, Ar12, q12, S12, N12, H12, G12⟩ := V_o6
  have hin12 : ¬ ((1 : Int32) < 0 ∨ cl12.slots.size ≤ ((1 : Int32)).toNatClampNeg) := inb_of S12 ⟨by decide, by decide⟩
  refine own_c2 (stB X11 hx hZ e11 Ar12 (j := (1 : Int32)) hin12 rfl rfl (hb hby d9_33)) fun T12 h12 X12 e12 W12 => ?_
  replace V_o6 : Arv Z h12 o6 k4 .byte (8 : Int32) [(.int i10), (.int (nar .byte (((1 : Int32) + (fmaxI i10 i12)).toInt8.toInt32))), (.int i12)] oZ := Arv.set Ar12 q12 S12 N12 H12 G12 (fits_nar_byte _) W12 1 rfl nB_
  replace F_left_o0 := F_left_o0.other W12 (Or.inl ne_o0_o6)
  replace F_right_o0 := F_right_o0.other W12 (Or.inl ne_o0_o6)
  replace F_heights_o0 := F_heights_o0.other W12 (Or.inl ne_o0_o6)
  replace V_o4 := V_o4.other W12 ne_o4_o6
  replace V_o5 := V_o5.other W12 ne_o5_o6
  replace K0 := K0.wr W12 (Or.inl (List.mem_of_getElem? (i := 0) rfl))
  replace Z0 := Nat.le_trans Z0 (Keep.of_wr W12).1
  replace N0 := Fr.snoc X12 N0 g_o6
  show own_Go p e below _ (T12.setTop (mkF m 34 #[rv o0, iv (1 : Int32)] []))
  exact own_retV X12 Bd.notSynchronized hx Bd.returns (hb hby d9_34) (by
      try rw [show T12.heap = h12 from e12]
      exact ⟨rfl, N0, K0, V_o6⟩) dE_ dE_

def Q8_51 (Z : State) (o0 o4 : Addr) (o5 o6 : Addr) (k2 : ClassId) (i6 i7 : Int32) (k3 : ClassId) (i8 i9 : Int32) (k4 : ClassId) (i10 i11 i12 : Int32) (h0 : Heap) (n0 : Nat) (v : Option Value) (h : Heap) (L : List Loc) : Prop := v = some (.int (1 : Int32)) ∧ Fr n0 L ∧ Keep h0 h [o6] ∧ Arv Z h o6 k4 .byte (8 : Int32) [(.int i10), (.int (nar .byte (((1 : Int32) + (fmaxI i10 i12)).toInt8.toInt32))), (.int i12)] oZ
set_option maxRecDepth 65536 in
set_option maxHeartbeats 40000000 in
theorem rm8_51 (l : Launch) (Z : State) (a0 : Array Value) (hw : oW_ a0 Z) (ws : List Jvm.Cond) (o0 o4 : Addr) (o5 o6 : Addr) (k2 : ClassId) (i6 i7 : Int32) (k3 : ClassId) (i8 i9 : Int32) (k4 : ClassId) (i10 i11 i12 : Int32) (h0 : Heap) (n0 : Nat) (Z0 : n0 ≤ h0.size) (E_o0 : Exa Z h0 o0 c0_) (F_left_o0 : Fld Z h0 o0 c0_ "left" "[I" (.ref o4)) (F_right_o0 : Fld Z h0 o0 c0_ "right" "[I" (.ref o5)) (F_heights_o0 : Fld Z h0 o0 c0_ "heights" "[B" (.ref o6)) (V_o4 : Arv Z h0 o4 k2 .int (8 : Int32) [(.int i6), oZ, (.int i7)] oZ) (V_o5 : Arv Z h0 o5 k3 .int (8 : Int32) [(.int i8), (.int (2 : Int32)), (.int i9)] oZ) (g_o6 : n0 ≤ o6) (V_o6 : Arv Z h0 o6 k4 .byte (8 : Int32) [(.int i10), (.int i11), (.int i12)] oZ) (hp0 : ¬ ((1 : Int32) < (i10 - i12))) (hp1 : ¬ ((i10 - i12) < (-1 : Int32))) (ne_o4_o6 : o4 ≠ o6) (ne_o5_o6 : o5 ≠ o6) :
    MetFree l y28_ (head1 (Jvm.Cond.code y28_ prog_3_method_10_code 3 (some .int) :: ws) (rM_ 2 0 0 29)) (fun a U => a = #[(.ref o0), (.int (1 : Int32))] ∧ Z.Warmed39 U.vm ∧ U.heap = h0) (fun _ _ _ _ _ => True) (fun _ U o U' => ∃ v L, o = .returned v ∧ Q8_51 Z o0 o4 o5 o6 k2 i6 i7 k3 i8 i9 k4 i10 i11 i12 h0 n0 v U'.heap L ∧ FrameEnd U o U' L (rM_ 2 0 0 29).cells (rM_ 2 0 0 29).slots) := by
  refine MetFree.of_bodySF (plainFor_of_name pn_8) hisR ?_
  intro p e s m args below meth c s₁ Bd hml0 hP hK
  obtain ⟨rfl, hZ, hh⟩ := hP
  have hx := Bd.exec
  have hby := Bd.bytes
  have hml : c.maxLocals = 3 := hml0
  have hown : s.vm.findClass c0_ = some m.cls := findClass_of_methodNamed Bd.named
  have hnm := (name_of_methodNamed Bd.named Bd.method).1
  have X0 : Stand p l e (rM_ 2 0 0 29) s m #[(.ref o0), (.int (1 : Int32))] below meth c s₁ [] 0 0 := Stand.of_body Bd
  have e0 : s₁.heap = h0 := by rw [← hh, Bd.state]; rfl
  have N0 := Fr.nil n0
  have K0 : Keep h0 h0 [o6] := Keep.refl h0 _
  change own_Go p e below (own_Post s (Q8_51 Z o0 o4 o5 o6 k2 i6 i7 k3 i8 i9 k4 i10 i11 i12 h0 n0) (rM_ 2 0 0 29).cells (rM_ 2 0 0 29).slots) (s₁.setTop (entryFrame m #[(.ref o0), (.int (1 : Int32))] 3))
  refine own_by (fun t k => castTop (ef_8 m o0 (1 : Int32)) k) ?_
  show own_Go p e below _ (s₁.setTop (mkF m 0 #[rv o0, iv (1 : Int32), oU] []))
  refine own_by (B := s₁.setTop (mkF m 1 #[rv o0, iv (1 : Int32), oU] [(.ref o0)])) (fun t k => ?_) ?_
  · refine XS.aloadN X0.here hx rfl (hb hby d8_0) rfl rfl ?_
    exact k
  refine own_c1 (getF X0 hx hZ hown (host := "") (Or.inl (hW hw 21 rfl)) Via.refl e0 F_heights_o0 rfl rfl (hb hby d8_1)) fun T1 X1 e1 => ?_
  show own_Go p e below _ (T1.setTop (mkF m 4 #[rv o0, iv (1 : Int32), oU] [(.ref o6)]))
  refine own_by (B := T1.setTop (mkF m 5 #[rv o0, iv (1 : Int32), oU] [(.ref o0), (.ref o6)])) (fun t k => ?_) ?_
  · refine XS.aloadN X1.here hx rfl (hb hby d8_4) rfl rfl ?_
    exact k
  refine own_c1 (getF X1 hx hZ hown (host := "") (Or.inl (hW hw 16 rfl)) Via.refl e1 F_left_o0 rfl rfl (hb hby d8_5)) fun T2 X2 e2 => ?_
  show own_Go p e below _ (T2.setTop (mkF m 8 #[rv o0, iv (1 : Int32), oU] [(.ref o4), (.ref o6)]))
  refine own_by (B := T2.setTop (mkF m 12 #[rv o0, iv (1 : Int32), oU] [(.ref o0), (.int i10)])) (fun t k => ?_) ?_
  · refine XS.iloadN X2.here hx rfl (hb hby d8_8) rfl ?_
    obtain ⟨cl3, Ar3, q3, S3, N3, H3, G3⟩ := id V_o4
    have hin3 : ¬ ((1 : Int32) < 0 ∨ cl3.slots.size ≤ ((1 : Int32)).toNatClampNeg) := inb_of S3 ⟨by decide, by decide⟩
    have hat3 : cl3.slots[((1 : Int32)).toNatClampNeg]? = some oZ := H3.at hin3 rfl
    refine X2.iaload hx (j := (1 : Int32)) (v := oZ) (by rw [show T2.heap = h0 from e2]; exact Ar3.1) (State.isArrayOf_alike hZ.alike Ar3.2.1) Ar3.2.2 hin3 hat3 (g := (mkF m 9 #[rv o0, iv (1 : Int32), oU] [(.int (1 : Int32)), (.ref o4), (.ref o6)])) rfl rfl (hb hby d8_9) _ ?_
    show Steps p.tables e below (T2.setTop (mkF m 10 #[rv o0, iv (1 : Int32), oU] [oZ, (.ref o6)])) _
    obtain ⟨cl4, Ar4, q4, S4, N4, H4, G4⟩ := id V_o6
    have hin4 : ¬ ((0 : Int32) < 0 ∨ cl4.slots.size ≤ ((0 : Int32)).toNatClampNeg) := inb_of S4 ⟨by decide, by decide⟩
    have hat4 : cl4.slots[((0 : Int32)).toNatClampNeg]? = some (.int i10) := H4.at hin4 rfl
    refine X2.baloadBytes hx (j := (0 : Int32)) (v := (.int i10)) (by rw [show T2.heap = h0 from e2]; exact Ar4.1) (State.isArrayOf_alike hZ.alike Ar4.2.1) Ar4.2.2 hin4 hat4 (g := (mkF m 10 #[rv o0, iv (1 : Int32), oU] [oZ, (.ref o6)])) rfl rfl (hb hby d8_10) _ ?_
    show Steps p.tables e below (T2.setTop (mkF m 11 #[rv o0, iv (1 : Int32), oU] [(.int i10)])) _
    refine XS.aloadN X2.here hx rfl (hb hby d8_11) rfl rfl ?_
    exact k
  refine own_c1 (getF X2 hx hZ hown (host := "") (Or.inl (hW hw 21 rfl)) Via.refl e2 F_heights_o0 rfl rfl (hb hby d8_12)) fun T5 X5 e5 => ?_
  show own_Go p e below _ (T5.setTop (mkF m 15 #[rv o0, iv (1 : Int32), oU] [(.ref o6), (.int i10)]))
  refine own_by (B := T5.setTop (mkF m 16 #[rv o0, iv (1 : Int32), oU] [(.ref o0), (.ref o6), (.int i10)])) (fun t k => ?_) ?_
  · refine XS.aloadN X5.here hx rfl (hb hby d8_15) rfl rfl ?_
    exact k
  refine own_c1 (getF X5 hx hZ hown (host := "") (Or.inl (hW hw 18 rfl)) Via.refl e5 F_right_o0 rfl rfl (hb hby d8_16)) fun T6 X6 e6 => ?_
  show own_Go p e below _ (T6.setTop (mkF m 19 #[rv o0, iv (1 : Int32), oU] [(.ref o5), (.ref o6), (.int i10)]))
  refine own_by (B := T6.setTop (mkF m 64 #[rv o0, iv (1 : Int32), iv (i10 - i12)] [(.int (1 : Int32)), (.ref o0)])) (fun t k => ?_) ?_
  · refine XS.iloadN X6.here hx rfl (hb hby d8_19) rfl ?_
    obtain ⟨cl7, Ar7, q7, S7, N7, H7, G7⟩ := id V_o5
    have hin7 : ¬ ((1 : Int32) < 0 ∨ cl7.slots.size ≤ ((1 : Int32)).toNatClampNeg) := inb_of S7 ⟨by decide, by decide⟩
    have hat7 : cl7.slots[((1 : Int32)).toNatClampNeg]? = some (.int (2 : Int32)) := H7.at hin7 rfl
    refine X6.iaload hx (j := (1 : Int32)) (v := (.int (2 : Int32))) (by rw [show T6.heap = h0 from e6]; exact Ar7.1) (State.isArrayOf_alike hZ.alike Ar7.2.1) Ar7.2.2 hin7 hat7 (g := (mkF m 20 #[rv o0, iv (1 : Int32), oU] [(.int (1 : Int32)), (.ref o5), (.ref o6), (.int i10)])) rfl rfl (hb hby d8_20) _ ?_
    show Steps p.tables e below (T6.setTop (mkF m 21 #[rv o0, iv (1 : Int32), oU] [(.int (2 : Int32)), (.ref o6), (.int i10)])) _
    obtain ⟨cl8, Ar8, q8, S8, N8, H8, G8⟩ := id V_o6
    have hin8 : ¬ ((2 : Int32) < 0 ∨ cl8.slots.size ≤ ((2 : Int32)).toNatClampNeg) := inb_of S8 ⟨by decide, by decide⟩
    have hat8 : cl8.slots[((2 : Int32)).toNatClampNeg]? = some (.int i12) := H8.at hin8 rfl
    refine X6.baloadBytes hx (j := (2 : Int32)) (v := (.int i12)) (by rw [show T6.heap = h0 from e6]; exact Ar8.1) (State.isArrayOf_alike hZ.alike Ar8.2.1) Ar8.2.2 hin8 hat8 (g := (mkF m 21 #[rv o0, iv (1 : Int32), oU] [(.int (2 : Int32)), (.ref o6), (.int i10)])) rfl rfl (hb hby d8_21) _ ?_
    show Steps p.tables e below (T6.setTop (mkF m 22 #[rv o0, iv (1 : Int32), oU] [(.int i12), (.int i10)])) _
    refine XS.isub X6.here hx rfl (hb hby d8_22) rfl ?_
    show Steps p.tables e below (T6.setTop (mkF m 23 #[rv o0, iv (1 : Int32), oU] [(.int (i10 - i12))])) _
    refine XS.istoreN X6.here hx rfl (hb hby d8_23) rfl (l' := #[rv o0, iv (1 : Int32), iv (i10 - i12)]) rfl ?_
    show Steps p.tables e below (T6.setTop (mkF m 24 #[rv o0, iv (1 : Int32), iv (i10 - i12)] [])) _
    refine XS.iloadN X6.here hx rfl (hb hby d8_24) rfl ?_
    refine XS.iconst X6.here hx rfl (hb hby d8_25) ?_
    refine XS.icmpYes X6.here hx rfl (pc0 := 26) (pc' := 43) rfl (hb hby d8_26) rfl (flt hp0).2.2.2 dE_ dE_ ?_
    show Steps p.tables e below (T6.setTop (mkF m 43 #[rv o0, iv (1 : Int32), iv (i10 - i12)] [])) _
    refine XS.iloadN X6.here hx rfl (hb hby d8_43) rfl ?_
    refine XS.iconst X6.here hx rfl (hb hby d8_44) ?_
    refine XS.icmpYes X6.here hx rfl (pc0 := 45) (pc' := 62) rfl (hb hby d8_45) rfl (flt hp1).2.1 dE_ dE_ ?_
    show Steps p.tables e below (T6.setTop (mkF m 62 #[rv o0, iv (1 : Int32), iv (i10 - i12)] [])) _
    refine XS.aloadN X6.here hx rfl (hb hby d8_62) rfl rfl ?_
    refine XS.iloadN X6.here hx rfl (hb hby d8_63) rfl ?_
    exact k
  refine own_cc (own_callP X6 hx hZ (y := y27_) hown (hW hw 60 rfl) (hW hw 61 rfl) (hW hw 3 rfl) (hW hw 63 rfl) (hW hw 62 rfl) (hW hw 2 rfl) dE_ (rm9_50 l Z a0 hw [] o0 o4 o5 o6 k2 i6 i7 k3 i8 i9 k4 i10 i11 i12 h0 n0 Z0 F_left_o0 F_right_o0 F_heights_o0 V_o4 V_o5 g_o6 V_o6 (own_nev E_o0 (hW hw 2 rfl) V_o6) ne_o4_o6 ne_o5_o6) e6 0 dE_ dE_ dE_ dE_ rfl (by rw [hml]; rfl) o0 E_o0 [(.int (1 : Int32))] [] rfl (lenOf pd_6 rfl) rfl (by show 2 * 0 + _ ≤ _; exact Nat.le_of_eq rfl) (hb hby d8_64)) fun T10 L10 v10 X10 hQ10 => ?_
  obtain ⟨rfl, N10, K10, V_o6'⟩ := hQ10
  replace N0 := Fr.app N0 N10
  have nx1 : o0 ≠ o6 := (own_nev E_o0 (hW hw 2 rfl) V_o6)
  replace E_o0 := E_o0.keep K10
  replace F_left_o0 := F_left_o0.keep K10 (ninS nx1 nin0)
  replace F_right_o0 := F_right_o0.keep K10 (ninS nx1 nin0)
  replace F_heights_o0 := F_heights_o0.keep K10 (ninS nx1 nin0)
  replace V_o4 := V_o4.keep K10 (ninS ne_o4_o6 nin0)
  replace V_o5 := V_o5.keep K10 (ninS ne_o5_o6 nin0)
  replace K0 := K0.trans K10 (allS (Or.inl (List.mem_of_getElem? (i := 0) rfl)) all0)
  replace Z0 := Nat.le_trans Z0 K10.1
  have V_o6 := V_o6'
  show own_Go p e below _ (T10.setTop (mkF m 67 #[rv o0, iv (1 : Int32), iv (i10 - i12)] []))
  refine own_by (B := T10.setTop (mkF m 68 #[rv o0, iv (1 : Int32), iv (i10 - i12)] [(.int (1 : Int32))])) (fun t k => ?_) ?_
  · refine XS.iloadN X10.here hx rfl (hb hby d8_67) rfl ?_
    exact k
  exact own_retI X10 Bd.notSynchronized hx Bd.returns (hb hby d8_68) ⟨rfl, N0, K0, V_o6⟩ dE_ dE_

theorem d4_67 : dC14_ 67 (.aload_n 0, 1) := by decide +kernel
theorem d4_68 : dC14_ 68 (.getfield 22, 3) := by decide +kernel
theorem d4_71 : dC14_ 71 (.iload_n 1, 1) := by decide +kernel
theorem d4_72 : dC14_ 72 (.aload_n 0, 1) := by decide +kernel
theorem d4_73 : dC14_ 73 (.aload_n 0, 1) := by decide +kernel
theorem d4_74 : dC14_ 74 (.getfield 22, 3) := by decide +kernel
theorem d4_77 : dC14_ 77 (.iload_n 1, 1) := by decide +kernel
theorem d4_78 : dC14_ 78 (.iaload, 1) := by decide +kernel
theorem d4_79 : dC14_ 79 (.lload_n 2, 1) := by decide +kernel
theorem d4_80 : dC14_ 80 (.lload 4, 2) := by decide +kernel
theorem d4_82 : dC14_ 82 (.invokevirtual 53, 3) := by decide +kernel
theorem d4_85 : dC14_ 85 (.iastore, 1) := by decide +kernel
def Q4_52 (Z : State) (o0 : Addr) (j0 j1 : Int64) (o2 o3 : Addr) (o4 o5 o6 : Addr) (i0 i1 : Int32) (i2 i3 i4 : Int32) (k0 : ClassId) (j2 j3 j4 : Int64) (k1 : ClassId) (j5 j6 j7 : Int64) (k2 : ClassId) (i5 i6 : Int32) (k3 : ClassId) (i7 i8 i9 : Int32) (k4 : ClassId) (i10 i11 i12 : Int32) (h0 : Heap) (n0 : Nat) (v : Option Value) (h : Heap) (L : List Loc) : Prop := v = some (.int (1 : Int32)) ∧ Fr n0 L ∧ Keep h0 h [o0, o2, o3, o4, o5, o6] ∧ Exa Z h o0 c0_ ∧ Fld Z h o0 c0_ "prices" "[J" (.ref o2) ∧ Fld Z h o0 c0_ "sizes" "[J" (.ref o3) ∧ Fld Z h o0 c0_ "left" "[I" (.ref o4) ∧ Fld Z h o0 c0_ "right" "[I" (.ref o5) ∧ Fld Z h o0 c0_ "heights" "[B" (.ref o6) ∧ Fld Z h o0 c0_ "root" "I" (.int i0) ∧ Fld Z h o0 c0_ "best" "I" (.int i1) ∧ Fld Z h o0 c0_ "unused" "I" (.int (3 : Int32)) ∧ Fld Z h o0 c0_ "free" "I" (.int i2) ∧ Fld Z h o0 c0_ "count" "I" (.int (i3 + (1 : Int32))) ∧ Fld Z h o0 c0_ "highestFirst" "Z" (.int i4) ∧ Arv Z h o2 k0 .long (8 : Int32) [(.long j2), (.long j3), (.long j0)] oY ∧ Arv Z h o3 k1 .long (8 : Int32) [(.long j5), (.long j6), (.long j1)] oY ∧ Arv Z h o4 k2 .int (8 : Int32) [(.int i5), oZ, oZ] oZ ∧ Arv Z h o5 k3 .int (8 : Int32) [(.int i7), (.int (2 : Int32)), oZ] oZ ∧ Arv Z h o6 k4 .byte (8 : Int32) [(.int i10), (.int (nar .byte (((1 : Int32) + (fmaxI i10 (1 : Int32))).toInt8.toInt32))), (.int (1 : Int32))] oZ
set_option maxRecDepth 65536 in
set_option maxHeartbeats 40000000 in
theorem rm4_52 (l : Launch) (Z : State) (a0 : Array Value) (hw : oW_ a0 Z) (ws : List Jvm.Cond) (o0 : Addr) (j0 j1 : Int64) (o2 o3 : Addr) (o4 o5 o6 : Addr) (i0 i1 : Int32) (i2 i3 i4 : Int32) (k0 : ClassId) (j2 j3 j4 : Int64) (k1 : ClassId) (j5 j6 j7 : Int64) (k2 : ClassId) (i5 i6 : Int32) (k3 : ClassId) (i7 i8 i9 : Int32) (k4 : ClassId) (i10 i11 i12 : Int32) (h0 : Heap) (n0 : Nat) (Z0 : n0 ≤ h0.size) (E_o0 : Exa Z h0 o0 c0_) (g_o0 : n0 ≤ o0) (F_prices_o0 : Fld Z h0 o0 c0_ "prices" "[J" (.ref o2)) (F_sizes_o0 : Fld Z h0 o0 c0_ "sizes" "[J" (.ref o3)) (F_left_o0 : Fld Z h0 o0 c0_ "left" "[I" (.ref o4)) (F_right_o0 : Fld Z h0 o0 c0_ "right" "[I" (.ref o5)) (F_heights_o0 : Fld Z h0 o0 c0_ "heights" "[B" (.ref o6)) (F_root_o0 : Fld Z h0 o0 c0_ "root" "I" (.int i0)) (F_best_o0 : Fld Z h0 o0 c0_ "best" "I" (.int i1)) (F_unused_o0 : Fld Z h0 o0 c0_ "unused" "I" (.int (2 : Int32))) (F_free_o0 : Fld Z h0 o0 c0_ "free" "I" (.int i2)) (F_count_o0 : Fld Z h0 o0 c0_ "count" "I" (.int i3)) (F_highestFirst_o0 : Fld Z h0 o0 c0_ "highestFirst" "Z" (.int i4)) (g_o2 : n0 ≤ o2) (V_o2 : Arv Z h0 o2 k0 .long (8 : Int32) [(.long j2), (.long j3), (.long j4)] oY) (g_o3 : n0 ≤ o3) (V_o3 : Arv Z h0 o3 k1 .long (8 : Int32) [(.long j5), (.long j6), (.long j7)] oY) (g_o4 : n0 ≤ o4) (V_o4 : Arv Z h0 o4 k2 .int (8 : Int32) [(.int i5), oZ, (.int i6)] oZ) (g_o5 : n0 ≤ o5) (V_o5 : Arv Z h0 o5 k3 .int (8 : Int32) [(.int i7), (.int i8), (.int i9)] oZ) (g_o6 : n0 ≤ o6) (V_o6 : Arv Z h0 o6 k4 .byte (8 : Int32) [(.int i10), (.int i11), (.int i12)] oZ) (hp0 : ¬ ((fcp j0 j3 i4) = (0 : Int32))) (hp1 : ¬ ((fcp j0 j3 i4) < (0 : Int32))) (hp2 : i8 = (0 : Int32)) (hp3 : i2 = (0 : Int32)) (ne_o3_o2 : o3 ≠ o2) (ne_o4_o2 : o4 ≠ o2) (ne_o5_o2 : o5 ≠ o2) (ne_o6_o2 : o6 ≠ o2) (ne_o4_o3 : o4 ≠ o3) (ne_o5_o3 : o5 ≠ o3) (ne_o6_o3 : o6 ≠ o3) (ne_o5_o4 : o5 ≠ o4) (ne_o6_o4 : o6 ≠ o4) (ne_o6_o5 : o6 ≠ o5) (hp4 : ¬ ((1 : Int32) < (i10 - (1 : Int32)))) (hp5 : ¬ ((i10 - (1 : Int32)) < (-1 : Int32))) :
    MetFree l y14_ (head1 (Jvm.Cond.code y14_ prog_3_method_8_code 7 (some .int) :: ws) (rM_ 3 0 0 43)) (fun a U => a = #[(.ref o0), (.int (1 : Int32)), (.long j0), (.long j1)] ∧ Z.Warmed39 U.vm ∧ U.heap = h0) (fun _ _ _ _ _ => True) (fun _ U o U' => ∃ v L, o = .returned v ∧ Q4_52 Z o0 j0 j1 o2 o3 o4 o5 o6 i0 i1 i2 i3 i4 k0 j2 j3 j4 k1 j5 j6 j7 k2 i5 i6 k3 i7 i8 i9 k4 i10 i11 i12 h0 n0 v U'.heap L ∧ FrameEnd U o U' L (rM_ 3 0 0 43).cells (rM_ 3 0 0 43).slots) := by
  refine MetFree.of_bodySF (plainFor_of_name pn_4) hisR ?_
  intro p e s m args below meth c s₁ Bd hml0 hP hK
  obtain ⟨rfl, hZ, hh⟩ := hP
  have hx := Bd.exec
  have hby := Bd.bytes
  have hml : c.maxLocals = 7 := hml0
  have hown : s.vm.findClass c0_ = some m.cls := findClass_of_methodNamed Bd.named
  have hnm := (name_of_methodNamed Bd.named Bd.method).1
  have X0 : Stand p l e (rM_ 3 0 0 43) s m #[(.ref o0), (.int (1 : Int32)), (.long j0), (.long j1)] below meth c s₁ [] 0 0 := Stand.of_body Bd
  have e0 : s₁.heap = h0 := by rw [← hh, Bd.state]; rfl
  have N0 := Fr.nil n0
  have K0 : Keep h0 h0 [o0, o2, o3, o4, o5, o6] := Keep.refl h0 _
  change own_Go p e below (own_Post s (Q4_52 Z o0 j0 j1 o2 o3 o4 o5 o6 i0 i1 i2 i3 i4 k0 j2 j3 j4 k1 j5 j6 j7 k2 i5 i6 k3 i7 i8 i9 k4 i10 i11 i12 h0 n0) (rM_ 3 0 0 43).cells (rM_ 3 0 0 43).slots) (s₁.setTop (entryFrame m #[(.ref o0), (.int (1 : Int32)), (.long j0), (.long j1)] 7))
  refine own_by (fun t k => castTop (ef_4 m o0 (1 : Int32) j0 j1) k) ?_
  show own_Go p e below _ (s₁.setTop (mkF m 0 (lA3_ o0 (1 : Int32) j0 j1) []))
  refine own_by (B := s₁.setTop (mkF m 15 (lA3_ o0 (1 : Int32) j0 j1) [(.ref o0), (.long j0), (.ref o0)])) (fun t k => ?_) ?_
  · refine XS.iloadN X0.here hx rfl (hb hby d4_0) rfl ?_
    refine XS.ifYes X0.here hx rfl (pc0 := 1) (pc' := 12) rfl (hb hby d4_1) rfl ((if0 _ _).trans (feq (by decide : ¬ ((1 : Int32) = (0 : Int32)))).2) dE_ dE_ ?_
    show Steps p.tables e below (s₁.setTop (mkF m 12 (lA3_ o0 (1 : Int32) j0 j1) [])) _
    refine XS.aloadN X0.here hx rfl (hb hby d4_12) rfl rfl ?_
    refine XS.lloadN X0.here hx rfl (hb hby d4_13) rfl ?_
    refine XS.aloadN X0.here hx rfl (hb hby d4_14) rfl rfl ?_
    exact k
  refine own_c1 (getF X0 hx hZ hown (host := "") (Or.inl (hW hw 11 rfl)) Via.refl e0 F_prices_o0 rfl rfl (hb hby d4_15)) fun T1 X1 e1 => ?_
  show own_Go p e below _ (T1.setTop (mkF m 18 (lA3_ o0 (1 : Int32) j0 j1) [(.ref o2), (.long j0), (.ref o0)]))
  refine own_by (B := T1.setTop (mkF m 20 (lA3_ o0 (1 : Int32) j0 j1) [(.long j3), (.long j0), (.ref o0)])) (fun t k => ?_) ?_
  · refine XS.iloadN X1.here hx rfl (hb hby d4_18) rfl ?_
    obtain ⟨cl2, Ar2, q2, S2, N2, H2, G2⟩ := id V_o2
    have hin2 : ¬ ((1 : Int32) < 0 ∨ cl2.slots.size ≤ ((1 : Int32)).toNatClampNeg) := inb_of S2 ⟨by decide, by decide⟩
    have hat2 : cl2.slots[((1 : Int32)).toNatClampNeg]? = some (.long j3) := H2.at hin2 rfl
    refine X1.laload hx (j := (1 : Int32)) (v := (.long j3)) (by rw [show T1.heap = h0 from e1]; exact Ar2.1) (State.isArrayOf_alike hZ.alike Ar2.2.1) Ar2.2.2 hin2 hat2 (g := (mkF m 19 (lA3_ o0 (1 : Int32) j0 j1) [(.int (1 : Int32)), (.ref o2), (.long j0), (.ref o0)])) rfl rfl (hb hby d4_19) _ ?_
    show Steps p.tables e below (T1.setTop (mkF m 20 (lA3_ o0 (1 : Int32) j0 j1) [(.long j3), (.long j0), (.ref o0)])) _
    exact k
  refine own_cc (own_callP X1 hx hZ (y := y4_) hown (hW hw 48 rfl) (hW hw 49 rfl) (hW hw 3 rfl) (hW hw 51 rfl) (hW hw 50 rfl) (hW hw 2 rfl) dE_ (rm6 l Z a0 hw [] o0 j0 j3 i4 h0 n0 Z0 F_highestFirst_o0) e1 0 dE_ dE_ dE_ dE_ rfl (by rw [hml]; rfl) o0 E_o0 [(.long j0), (.long j3)] [] rfl (lenOf pd_4 rfl) rfl (by show 2 * 0 + _ ≤ _; exact Nat.le_of_eq rfl) (hb hby d4_20)) fun T4 L4 v4 X4 hQ4 => ?_
  obtain ⟨rfl, N4, e4⟩ := hQ4
  replace N0 := Fr.app N0 N4
  show own_Go p e below _ (T4.setTop (mkF m 23 (lA3_ o0 (1 : Int32) j0 j1) [(.int (fcp j0 j3 i4))]))
  refine own_by (B := T4.setTop (mkF m 68 (lA4_ o0 (1 : Int32) j0 j1 (fcp j0 j3 i4)) [(.ref o0)])) (fun t k => ?_) ?_
  · refine XS.istore X4.here hx rfl (hb hby d4_23) rfl (l' := (lA4_ o0 (1 : Int32) j0 j1 (fcp j0 j3 i4))) rfl ?_
    show Steps p.tables e below (T4.setTop (mkF m 25 (lA4_ o0 (1 : Int32) j0 j1 (fcp j0 j3 i4)) [])) _
    refine XS.iload X4.here hx rfl (hb hby d4_25) rfl ?_
    refine XS.ifYes X4.here hx rfl (pc0 := 27) (pc' := 40) rfl (hb hby d4_27) rfl ((if0 _ _).trans (feq hp0).2) dE_ dE_ ?_
    show Steps p.tables e below (T4.setTop (mkF m 40 (lA4_ o0 (1 : Int32) j0 j1 (fcp j0 j3 i4)) [])) _
    refine XS.iload X4.here hx rfl (hb hby d4_40) rfl ?_
    refine XS.ifYes X4.here hx rfl (pc0 := 42) (pc' := 67) rfl (hb hby d4_42) rfl ((if0 _ _).trans (flt hp1).2.1) dE_ dE_ ?_
    show Steps p.tables e below (T4.setTop (mkF m 67 (lA4_ o0 (1 : Int32) j0 j1 (fcp j0 j3 i4)) [])) _
    refine XS.aloadN X4.here hx rfl (hb hby d4_67) rfl rfl ?_
    exact k
  refine own_c1 (getF X4 hx hZ hown (host := "") (Or.inl (hW hw 18 rfl)) Via.refl e4 F_right_o0 rfl rfl (hb hby d4_68)) fun T5 X5 e5 => ?_
  show own_Go p e below _ (T5.setTop (mkF m 71 (lA4_ o0 (1 : Int32) j0 j1 (fcp j0 j3 i4)) [(.ref o5)]))
  refine own_by (B := T5.setTop (mkF m 74 (lA4_ o0 (1 : Int32) j0 j1 (fcp j0 j3 i4)) [(.ref o0), (.ref o0), (.int (1 : Int32)), (.ref o5)])) (fun t k => ?_) ?_
  · refine XS.iloadN X5.here hx rfl (hb hby d4_71) rfl ?_
    refine XS.aloadN X5.here hx rfl (hb hby d4_72) rfl rfl ?_
    refine XS.aloadN X5.here hx rfl (hb hby d4_73) rfl rfl ?_
    exact k
  refine own_c1 (getF X5 hx hZ hown (host := "") (Or.inl (hW hw 18 rfl)) Via.refl e5 F_right_o0 rfl rfl (hb hby d4_74)) fun T6 X6 e6 => ?_
  show own_Go p e below _ (T6.setTop (mkF m 77 (lA4_ o0 (1 : Int32) j0 j1 (fcp j0 j3 i4)) [(.ref o5), (.ref o0), (.int (1 : Int32)), (.ref o5)]))
  refine own_by (B := T6.setTop (mkF m 82 (lA4_ o0 (1 : Int32) j0 j1 (fcp j0 j3 i4)) [(.long j1), (.long j0), (.int i8), (.ref o0), (.int (1 : Int32)), (.ref o5)])) (fun t k => ?_) ?_
  · refine XS.iloadN X6.here hx rfl (hb hby d4_77) rfl ?_
    obtain ⟨cl7, Ar7, q7, S7, N7, H7, G7⟩ := id V_o5
    have hin7 : ¬ ((1 : Int32) < 0 ∨ cl7.slots.size ≤ ((1 : Int32)).toNatClampNeg) := inb_of S7 ⟨by decide, by decide⟩
    have hat7 : cl7.slots[((1 : Int32)).toNatClampNeg]? = some (.int i8) := H7.at hin7 rfl
    refine X6.iaload hx (j := (1 : Int32)) (v := (.int i8)) (by rw [show T6.heap = h0 from e6]; exact Ar7.1) (State.isArrayOf_alike hZ.alike Ar7.2.1) Ar7.2.2 hin7 hat7 (g := (mkF m 78 (lA4_ o0 (1 : Int32) j0 j1 (fcp j0 j3 i4)) [(.int (1 : Int32)), (.ref o5), (.ref o0), (.int (1 : Int32)), (.ref o5)])) rfl rfl (hb hby d4_78) _ ?_
    show Steps p.tables e below (T6.setTop (mkF m 79 (lA4_ o0 (1 : Int32) j0 j1 (fcp j0 j3 i4)) [(.int i8), (.ref o0), (.int (1 : Int32)), (.ref o5)])) _
    refine XS.lloadN X6.here hx rfl (hb hby d4_79) rfl ?_
    refine XS.lload X6.here hx rfl (hb hby d4_80) rfl ?_
    exact k
  refine own_cc (own_callP X6 hx hZ (y := y14_) hown (hW hw 38 rfl) (hW hw 39 rfl) (hW hw 3 rfl) (hW hw 41 rfl) (hW hw 40 rfl) (hW hw 2 rfl) dE_ (rm4_49 l Z a0 hw [] o0 i8 j0 j1 o2 o3 o4 o5 o6 i0 i1 i2 i3 i4 k0 j2 j3 j4 k1 j5 j6 j7 k2 i5 (0 : Int32) i6 k3 i7 i9 k4 i10 i11 i12 h0 n0 Z0 E_o0 g_o0 F_prices_o0 F_sizes_o0 F_left_o0 F_right_o0 F_heights_o0 F_root_o0 F_best_o0 F_unused_o0 F_free_o0 F_count_o0 F_highestFirst_o0 g_o2 V_o2 g_o3 V_o3 g_o4 V_o4 g_o5 V_o5 g_o6 V_o6 hp2 hp3 ne_o3_o2 ne_o4_o2 ne_o5_o2 ne_o6_o2 ne_o4_o3 ne_o5_o3 ne_o6_o3 ne_o5_o4 ne_o6_o4 ne_o6_o5) e6 2 dE_ dE_ dE_ dE_ rfl (by rw [hml]; rfl) o0 E_o0 [(.int i8), (.long j0), (.long j1)] [(.int (1 : Int32)), (.ref o5)] rfl (lenOf pd_3 rfl) rfl (by show 2 * 0 + _ ≤ _; exact Nat.le_of_eq rfl) (hb hby d4_82)) fun T9 L9 v9 X9 hQ9 => ?_
  obtain ⟨rfl, N9, K9, V_o6', V_o5', V_o4', V_o3', V_o2', E_o0', F_prices_o0', F_sizes_o0', F_left_o0', F_right_o0', F_heights_o0', F_root_o0', F_best_o0', F_unused_o0', F_free_o0', F_count_o0', F_highestFirst_o0'⟩ := hQ9
  replace N0 := Fr.app N0 N9
  replace E_o0 := E_o0.keep K9
  replace K0 := K0.trans K9 (allS (Or.inl (List.mem_of_getElem? (i := 5) rfl)) (allS (Or.inl (List.mem_of_getElem? (i := 4) rfl)) (allS (Or.inl (List.mem_of_getElem? (i := 3) rfl)) (allS (Or.inl (List.mem_of_getElem? (i := 2) rfl)) (allS (Or.inl (List.mem_of_getElem? (i := 1) rfl)) (allS (Or.inl (List.mem_of_getElem? (i := 0) rfl)) all0))))))
  replace Z0 := Nat.le_trans Z0 K9.1
  have V_o6 := V_o6'
  have V_o5 := V_o5'
  have V_o4 := V_o4'
  have V_o3 := V_o3'
  have V_o2 := V_o2'
  replace E_o0 := E_o0'
  have F_prices_o0 := F_prices_o0'
  have F_sizes_o0 := F_sizes_o0'
  have F_left_o0 := F_left_o0'
  have F_right_o0 := F_right_o0'
  have F_heights_o0 := F_heights_o0'
  have F_root_o0 := F_root_o0'
  have F_best_o0 := F_best_o0'
  have F_unused_o0 := F_unused_o0'
  have F_free_o0 := F_free_o0'
  have F_count_o0 := F_count_o0'
  have F_highestFirst_o0 := F_highestFirst_o0'
  show own_Go p e below _ (T9.setTop (mkF m 85 (lA4_ o0 (1 : Int32) j0 j1 (fcp j0 j3 i4)) [(.int (2 : Int32)), (.int (1 : Int32)), (.ref o5)]))
  have nx1 : o0 ≠ o5 := (own_nev E_o0 (hW hw 2 rfl) V_o5)
  obtain ⟨cl10, Ar10, q10, S10, N10, H10, G10⟩ := V_o5
  have hin10 : ¬ ((1 : Int32) < 0 ∨ cl10.slots.size ≤ ((1 : Int32)).toNatClampNeg) := inb_of S10 ⟨by decide, by decide⟩
  refine own_c2 (stI X9 hx hZ rfl Ar10 (j := (1 : Int32)) hin10 rfl rfl (hb hby d4_85)) fun T10 h10 X10 e10 W10 => ?_
  replace V_o5 : Arv Z h10 o5 k3 .int (8 : Int32) [(.int i7), (.int (2 : Int32)), oZ] oZ := Arv.set Ar10 q10 S10 N10 H10 G10 rfl W10 1 rfl nB_
  replace E_o0 := E_o0.wr W10
  replace V_o6 := V_o6.other W10 ne_o6_o5
  replace V_o4 := V_o4.other W10 (Ne.symm ne_o5_o4)
  replace V_o3 := V_o3.other W10 (Ne.symm ne_o5_o3)
  replace V_o2 := V_o2.other W10 (Ne.symm ne_o5_o2)
  replace F_prices_o0 := F_prices_o0.other W10 (Or.inl nx1)
  replace F_sizes_o0 := F_sizes_o0.other W10 (Or.inl nx1)
  replace F_left_o0 := F_left_o0.other W10 (Or.inl nx1)
  replace F_right_o0 := F_right_o0.other W10 (Or.inl nx1)
  replace F_heights_o0 := F_heights_o0.other W10 (Or.inl nx1)
  replace F_root_o0 := F_root_o0.other W10 (Or.inl nx1)
  replace F_best_o0 := F_best_o0.other W10 (Or.inl nx1)
  replace F_unused_o0 := F_unused_o0.other W10 (Or.inl nx1)
  replace F_free_o0 := F_free_o0.other W10 (Or.inl nx1)
  replace F_count_o0 := F_count_o0.other W10 (Or.inl nx1)
  replace F_highestFirst_o0 := F_highestFirst_o0.other W10 (Or.inl nx1)
  replace K0 := K0.wr W10 (Or.inl (List.mem_of_getElem? (i := 4) rfl))
  replace Z0 := Nat.le_trans Z0 (Keep.of_wr W10).1
  replace N0 := Fr.snoc X10 N0 g_o5
  show own_Go p e below _ (T10.setTop (mkF m 86 (lA4_ o0 (1 : Int32) j0 j1 (fcp j0 j3 i4)) []))
  refine own_by (B := T10.setTop (mkF m 88 (lA4_ o0 (1 : Int32) j0 j1 (fcp j0 j3 i4)) [(.int (1 : Int32)), (.ref o0)])) (fun t k => ?_) ?_
  · refine XS.aloadN X10.here hx rfl (hb hby d4_86) rfl rfl ?_
    refine XS.iloadN X10.here hx rfl (hb hby d4_87) rfl ?_
    exact k
  refine own_cc (own_callP X10 hx hZ (y := y28_) hown (hW hw 56 rfl) (hW hw 57 rfl) (hW hw 3 rfl) (hW hw 59 rfl) (hW hw 58 rfl) (hW hw 2 rfl) dE_ (rm8_51 l Z a0 hw [] o0 o4 o5 o6 k2 i5 (0 : Int32) k3 i7 (0 : Int32) k4 i10 i11 (1 : Int32) h10 n0 Z0 E_o0 F_left_o0 F_right_o0 F_heights_o0 V_o4 V_o5 g_o6 V_o6 hp4 hp5 (Ne.symm ne_o6_o4) (Ne.symm ne_o6_o5)) e10 0 dE_ dE_ dE_ dE_ rfl (by rw [hml]; rfl) o0 E_o0 [(.int (1 : Int32))] [] rfl (lenOf pd_5 rfl) rfl (by show 2 * 0 + _ ≤ _; exact Nat.le_of_eq rfl) (hb hby d4_88)) fun T12 L12 v12 X12 hQ12 => ?_
  obtain ⟨rfl, N12, K12, V_o6'⟩ := hQ12
  replace N0 := Fr.app N0 N12
  have nx2 : o0 ≠ o6 := (own_nev E_o0 (hW hw 2 rfl) V_o6)
  replace E_o0 := E_o0.keep K12
  replace V_o5 := V_o5.keep K12 (ninS (Ne.symm ne_o6_o5) nin0)
  replace V_o4 := V_o4.keep K12 (ninS (Ne.symm ne_o6_o4) nin0)
  replace V_o3 := V_o3.keep K12 (ninS (Ne.symm ne_o6_o3) nin0)
  replace V_o2 := V_o2.keep K12 (ninS (Ne.symm ne_o6_o2) nin0)
  replace F_prices_o0 := F_prices_o0.keep K12 (ninS nx2 nin0)
  replace F_sizes_o0 := F_sizes_o0.keep K12 (ninS nx2 nin0)
  replace F_left_o0 := F_left_o0.keep K12 (ninS nx2 nin0)
  replace F_right_o0 := F_right_o0.keep K12 (ninS nx2 nin0)
  replace F_heights_o0 := F_heights_o0.keep K12 (ninS nx2 nin0)
  replace F_root_o0 := F_root_o0.keep K12 (ninS nx2 nin0)
  replace F_best_o0 := F_best_o0.keep K12 (ninS nx2 nin0)
  replace F_unused_o0 := F_unused_o0.keep K12 (ninS nx2 nin0)
  replace F_free_o0 := F_free_o0.keep K12 (ninS nx2 nin0)
  replace F_count_o0 := F_count_o0.keep K12 (ninS nx2 nin0)
  replace F_highestFirst_o0 := F_highestFirst_o0.keep K12 (ninS nx2 nin0)
  replace K0 := K0.trans K12 (allS (Or.inl (List.mem_of_getElem? (i := 5) rfl)) all0)
  replace Z0 := Nat.le_trans Z0 K12.1
  have V_o6 := V_o6'
  show own_Go p e below _ (T12.setTop (mkF m 91 (lA4_ o0 (1 : Int32) j0 j1 (fcp j0 j3 i4)) [(.int (1 : Int32))]))
  exact own_retI X12 Bd.notSynchronized hx Bd.returns (hb hby d4_91) ⟨rfl, N0, K0, E_o0, F_prices_o0, F_sizes_o0, F_left_o0, F_right_o0, F_heights_o0, F_root_o0, F_best_o0, F_unused_o0, F_free_o0, F_count_o0, F_highestFirst_o0, V_o2, V_o3, V_o4, V_o5, V_o6⟩ dE_ dE_

def Q3_53 (Z : State) (o0 : Addr) (j0 j1 : Int64) (o2 o3 : Addr) (o4 o5 o6 : Addr) (i0 i1 : Int32) (i2 i3 : Int32) (k0 : ClassId) (j2 j3 j4 : Int64) (k1 : ClassId) (j5 j6 j7 : Int64) (k2 : ClassId) (i4 i5 : Int32) (k3 : ClassId) (i6 i7 i8 : Int32) (k4 : ClassId) (i9 i10 i11 : Int32) (h0 : Heap) (n0 : Nat) (v : Option Value) (h : Heap) (L : List Loc) : Prop := v = none ∧ Fr n0 L ∧ Keep h0 h [o6, o5, o4, o3, o2, o0] ∧ Arv Z h o6 k4 .byte (8 : Int32) [(.int i9), (.int (nar .byte (((1 : Int32) + (fmaxI i9 (1 : Int32))).toInt8.toInt32))), (.int (1 : Int32))] oZ ∧ Arv Z h o5 k3 .int (8 : Int32) [(.int i6), (.int (2 : Int32)), oZ] oZ ∧ Arv Z h o4 k2 .int (8 : Int32) [(.int i4), oZ, oZ] oZ ∧ Arv Z h o3 k1 .long (8 : Int32) [(.long j5), (.long j6), (.long j1)] oY ∧ Arv Z h o2 k0 .long (8 : Int32) [(.long j2), (.long j3), (.long j0)] oY ∧ Exa Z h o0 c0_ ∧ Fld Z h o0 c0_ "prices" "[J" (.ref o2) ∧ Fld Z h o0 c0_ "sizes" "[J" (.ref o3) ∧ Fld Z h o0 c0_ "left" "[I" (.ref o4) ∧ Fld Z h o0 c0_ "right" "[I" (.ref o5) ∧ Fld Z h o0 c0_ "heights" "[B" (.ref o6) ∧ Fld Z h o0 c0_ "root" "I" (.int (1 : Int32)) ∧ Fld Z h o0 c0_ "best" "I" (.int (1 : Int32)) ∧ Fld Z h o0 c0_ "unused" "I" (.int (3 : Int32)) ∧ Fld Z h o0 c0_ "free" "I" (.int i1) ∧ Fld Z h o0 c0_ "count" "I" (.int (i2 + (1 : Int32))) ∧ Fld Z h o0 c0_ "highestFirst" "Z" (.int i3)
set_option maxRecDepth 65536 in
set_option maxHeartbeats 40000000 in
theorem rm3_53 (l : Launch) (Z : State) (a0 : Array Value) (hw : oW_ a0 Z) (ws : List Jvm.Cond) (o0 : Addr) (j0 j1 : Int64) (o2 o3 : Addr) (o4 o5 o6 : Addr) (i0 i1 : Int32) (i2 i3 : Int32) (k0 : ClassId) (j2 j3 j4 : Int64) (k1 : ClassId) (j5 j6 j7 : Int64) (k2 : ClassId) (i4 i5 : Int32) (k3 : ClassId) (i6 i7 i8 : Int32) (k4 : ClassId) (i9 i10 i11 : Int32) (h0 : Heap) (n0 : Nat) (Z0 : n0 ≤ h0.size) (E_o0 : Exa Z h0 o0 c0_) (g_o0 : n0 ≤ o0) (F_prices_o0 : Fld Z h0 o0 c0_ "prices" "[J" (.ref o2)) (F_sizes_o0 : Fld Z h0 o0 c0_ "sizes" "[J" (.ref o3)) (F_left_o0 : Fld Z h0 o0 c0_ "left" "[I" (.ref o4)) (F_right_o0 : Fld Z h0 o0 c0_ "right" "[I" (.ref o5)) (F_heights_o0 : Fld Z h0 o0 c0_ "heights" "[B" (.ref o6)) (F_root_o0 : Fld Z h0 o0 c0_ "root" "I" (.int (1 : Int32))) (F_best_o0 : Fld Z h0 o0 c0_ "best" "I" (.int i0)) (F_unused_o0 : Fld Z h0 o0 c0_ "unused" "I" (.int (2 : Int32))) (F_free_o0 : Fld Z h0 o0 c0_ "free" "I" (.int i1)) (F_count_o0 : Fld Z h0 o0 c0_ "count" "I" (.int i2)) (F_highestFirst_o0 : Fld Z h0 o0 c0_ "highestFirst" "Z" (.int i3)) (g_o2 : n0 ≤ o2) (V_o2 : Arv Z h0 o2 k0 .long (8 : Int32) [(.long j2), (.long j3), (.long j4)] oY) (g_o3 : n0 ≤ o3) (V_o3 : Arv Z h0 o3 k1 .long (8 : Int32) [(.long j5), (.long j6), (.long j7)] oY) (g_o4 : n0 ≤ o4) (V_o4 : Arv Z h0 o4 k2 .int (8 : Int32) [(.int i4), oZ, (.int i5)] oZ) (g_o5 : n0 ≤ o5) (V_o5 : Arv Z h0 o5 k3 .int (8 : Int32) [(.int i6), (.int i7), (.int i8)] oZ) (g_o6 : n0 ≤ o6) (V_o6 : Arv Z h0 o6 k4 .byte (8 : Int32) [(.int i9), (.int i10), (.int i11)] oZ) (hp0 : ¬ (j1 = (0 : Int64))) (hp1 : i1 = (0 : Int32)) (hp2 : ¬ ((fcp j0 j3 i3) = (0 : Int32))) (hp3 : ¬ ((fcp j0 j3 i3) < (0 : Int32))) (hp4 : i7 = (0 : Int32)) (ne_o3_o2 : o3 ≠ o2) (ne_o4_o2 : o4 ≠ o2) (ne_o5_o2 : o5 ≠ o2) (ne_o6_o2 : o6 ≠ o2) (ne_o4_o3 : o4 ≠ o3) (ne_o5_o3 : o5 ≠ o3) (ne_o6_o3 : o6 ≠ o3) (ne_o5_o4 : o5 ≠ o4) (ne_o6_o4 : o6 ≠ o4) (ne_o6_o5 : o6 ≠ o5) (hp5 : ¬ ((1 : Int32) < (i9 - (1 : Int32)))) (hp6 : ¬ ((i9 - (1 : Int32)) < (-1 : Int32))) :
    MetFree l y15_ (head1 (Jvm.Cond.code y15_ prog_3_method_4_code 5 none :: ws) (rM_ 4 0 0 62)) (fun a U => a = #[(.ref o0), (.long j0), (.long j1)] ∧ Z.Warmed39 U.vm ∧ U.heap = h0) (fun _ _ _ _ _ => True) (fun _ U o U' => ∃ v L, o = .returned v ∧ Q3_53 Z o0 j0 j1 o2 o3 o4 o5 o6 i0 i1 i2 i3 k0 j2 j3 j4 k1 j5 j6 j7 k2 i4 i5 k3 i6 i7 i8 k4 i9 i10 i11 h0 n0 v U'.heap L ∧ FrameEnd U o U' L (rM_ 4 0 0 62).cells (rM_ 4 0 0 62).slots) := by
  refine MetFree.of_bodySF (plainFor_of_name pn_3) hisR ?_
  intro p e s m args below meth c s₁ Bd hml0 hP hK
  obtain ⟨rfl, hZ, hh⟩ := hP
  have hx := Bd.exec
  have hby := Bd.bytes
  have hml : c.maxLocals = 5 := hml0
  have hown : s.vm.findClass c0_ = some m.cls := findClass_of_methodNamed Bd.named
  have hnm := (name_of_methodNamed Bd.named Bd.method).1
  have X0 : Stand p l e (rM_ 4 0 0 62) s m #[(.ref o0), (.long j0), (.long j1)] below meth c s₁ [] 0 0 := Stand.of_body Bd
  have e0 : s₁.heap = h0 := by rw [← hh, Bd.state]; rfl
  have N0 := Fr.nil n0
  have K0 : Keep h0 h0 [o6, o5, o4, o3, o2, o0] := Keep.refl h0 _
  change own_Go p e below (own_Post s (Q3_53 Z o0 j0 j1 o2 o3 o4 o5 o6 i0 i1 i2 i3 k0 j2 j3 j4 k1 j5 j6 j7 k2 i4 i5 k3 i6 i7 i8 k4 i9 i10 i11 h0 n0) (rM_ 4 0 0 62).cells (rM_ 4 0 0 62).slots) (s₁.setTop (entryFrame m #[(.ref o0), (.long j0), (.long j1)] 5))
  refine own_by (fun t k => castTop (ef_3 m o0 j0 j1) k) ?_
  show own_Go p e below _ (s₁.setTop (mkF m 0 (lA0_ o0 j0 j1) []))
  refine own_by (B := s₁.setTop (mkF m 23 (lA0_ o0 j0 j1) [(.ref o0)])) (fun t k => ?_) ?_
  · refine XS.lloadN X0.here hx rfl (hb hby d3_0) rfl ?_
    refine XS.lconst X0.here hx rfl (hb hby d3_1) ?_
    refine XS.lcmp X0.here hx rfl (hb hby d3_2) rfl ?_
    show Steps p.tables e below (s₁.setTop (mkF m 3 (lA0_ o0 j0 j1) [(.int (lcmpW j1 (0 : Int64)))])) _
    refine XS.ifYes X0.here hx rfl (pc0 := 3) (pc' := 22) rfl (hb hby d3_3) rfl ((if0 _ _).trans (feq (fun q => hp0 ((lw_eq _ _).mp q))).2) dE_ dE_ ?_
    show Steps p.tables e below (s₁.setTop (mkF m 22 (lA0_ o0 j0 j1) [])) _
    refine XS.aloadN X0.here hx rfl (hb hby d3_22) rfl rfl ?_
    exact k
  refine own_c1 (getF X0 hx hZ hown (host := "") (Or.inl (hW hw 29 rfl)) Via.refl e0 F_free_o0 rfl rfl (hb hby d3_23)) fun T1 X1 e1 => ?_
  show own_Go p e below _ (T1.setTop (mkF m 26 (lA0_ o0 j0 j1) [(.int i1)]))
  refine own_by (B := T1.setTop (mkF m 30 (lA0_ o0 j0 j1) [(.ref o0)])) (fun t k => ?_) ?_
  · refine XS.ifNo X1.here hx rfl (hb hby d3_26) rfl ((if0 _ _).trans (teq hp1).2) ?_
    show Steps p.tables e below (T1.setTop (mkF m 29 (lA0_ o0 j0 j1) [])) _
    refine XS.aloadN X1.here hx rfl (hb hby d3_29) rfl rfl ?_
    exact k
  refine own_c1 (getF X1 hx hZ hown (host := "") (Or.inl (hW hw 27 rfl)) Via.refl e1 F_unused_o0 rfl rfl (hb hby d3_30)) fun T2 X2 e2 => ?_
  show own_Go p e below _ (T2.setTop (mkF m 33 (lA0_ o0 j0 j1) [(.int (2 : Int32))]))
  refine own_by (B := T2.setTop (mkF m 34 (lA0_ o0 j0 j1) [(.ref o0), (.int (2 : Int32))])) (fun t k => ?_) ?_
  · refine XS.aloadN X2.here hx rfl (hb hby d3_33) rfl rfl ?_
    exact k
  refine own_c1 (getF X2 hx hZ hown (host := "") (Or.inl (hW hw 11 rfl)) Via.refl e2 F_prices_o0 rfl rfl (hb hby d3_34)) fun T3 X3 e3 => ?_
  show own_Go p e below _ (T3.setTop (mkF m 37 (lA0_ o0 j0 j1) [(.ref o2), (.int (2 : Int32))]))
  refine own_by (B := T3.setTop (mkF m 48 (lA0_ o0 j0 j1) [(.ref o0), (.ref o0), (.ref o0)])) (fun t k => ?_) ?_
  · obtain ⟨cl4, Ar4, -, S4, N4, -, -⟩ := id V_o2
    refine X3.arraylength hx (by rw [show T3.heap = h0 from e3]; exact Ar4.1) (State.isArrayOf_alike hZ.alike Ar4.2.1) (g := (mkF m 37 (lA0_ o0 j0 j1) [(.ref o2), (.int (2 : Int32))])) rfl rfl (hb hby d3_37) _ ?_
    rw [len_of S4 N4]
    show Steps p.tables e below (T3.setTop (mkF m 38 (lA0_ o0 j0 j1) [(.int (8 : Int32)), (.int (2 : Int32))])) _
    refine XS.icmpYes X3.here hx rfl (pc0 := 38) (pc' := 45) rfl (hb hby d3_38) rfl (feq (by decide : ¬ ((2 : Int32) = (8 : Int32)))).2 dE_ dE_ ?_
    show Steps p.tables e below (T3.setTop (mkF m 45 (lA0_ o0 j0 j1) [])) _
    refine XS.aloadN X3.here hx rfl (hb hby d3_45) rfl rfl ?_
    refine XS.aloadN X3.here hx rfl (hb hby d3_46) rfl rfl ?_
    refine XS.aloadN X3.here hx rfl (hb hby d3_47) rfl rfl ?_
    exact k
  refine own_c1 (getF X3 hx hZ hown (host := "") (Or.inl (hW hw 23 rfl)) Via.refl e3 F_root_o0 rfl rfl (hb hby d3_48)) fun T5 X5 e5 => ?_
  show own_Go p e below _ (T5.setTop (mkF m 51 (lA0_ o0 j0 j1) [(.int (1 : Int32)), (.ref o0), (.ref o0)]))
  refine own_by (B := T5.setTop (mkF m 53 (lA0_ o0 j0 j1) [(.long j1), (.long j0), (.int (1 : Int32)), (.ref o0), (.ref o0)])) (fun t k => ?_) ?_
  · refine XS.lloadN X5.here hx rfl (hb hby d3_51) rfl ?_
    refine XS.lloadN X5.here hx rfl (hb hby d3_52) rfl ?_
    exact k
  refine own_cc (own_callP X5 hx hZ (y := y14_) hown (hW hw 38 rfl) (hW hw 39 rfl) (hW hw 3 rfl) (hW hw 41 rfl) (hW hw 40 rfl) (hW hw 2 rfl) dE_ (rm4_52 l Z a0 hw [] o0 j0 j1 o2 o3 o4 o5 o6 (1 : Int32) i0 i1 i2 i3 k0 j2 j3 j4 k1 j5 j6 j7 k2 i4 i5 k3 i6 i7 i8 k4 i9 i10 i11 h0 n0 Z0 E_o0 g_o0 F_prices_o0 F_sizes_o0 F_left_o0 F_right_o0 F_heights_o0 F_root_o0 F_best_o0 F_unused_o0 F_free_o0 F_count_o0 F_highestFirst_o0 g_o2 V_o2 g_o3 V_o3 g_o4 V_o4 g_o5 V_o5 g_o6 V_o6 hp2 hp3 hp4 hp1 ne_o3_o2 ne_o4_o2 ne_o5_o2 ne_o6_o2 ne_o4_o3 ne_o5_o3 ne_o6_o3 ne_o5_o4 ne_o6_o4 ne_o6_o5 hp5 hp6) e5 1 dE_ dE_ dE_ dE_ rfl (by rw [hml]; rfl) o0 E_o0 [(.int (1 : Int32)), (.long j0), (.long j1)] [(.ref o0)] rfl (lenOf pd_3 rfl) rfl (by show 2 * 0 + _ ≤ _; exact Nat.le_of_eq rfl) (hb hby d3_53)) fun T7 L7 v7 X7 hQ7 => ?_
  obtain ⟨rfl, N7, K7, E_o0', F_prices_o0', F_sizes_o0', F_left_o0', F_right_o0', F_heights_o0', F_root_o0', F_best_o0', F_unused_o0', F_free_o0', F_count_o0', F_highestFirst_o0', V_o2', V_o3', V_o4', V_o5', V_o6'⟩ := hQ7
  replace N0 := Fr.app N0 N7
  replace E_o0 := E_o0.keep K7
  replace K0 := K0.trans K7 (allS (Or.inl (List.mem_of_getElem? (i := 5) rfl)) (allS (Or.inl (List.mem_of_getElem? (i := 4) rfl)) (allS (Or.inl (List.mem_of_getElem? (i := 3) rfl)) (allS (Or.inl (List.mem_of_getElem? (i := 2) rfl)) (allS (Or.inl (List.mem_of_getElem? (i := 1) rfl)) (allS (Or.inl (List.mem_of_getElem? (i := 0) rfl)) all0))))))
  replace Z0 := Nat.le_trans Z0 K7.1
  replace E_o0 := E_o0'
  have F_prices_o0 := F_prices_o0'
  have F_sizes_o0 := F_sizes_o0'
  have F_left_o0 := F_left_o0'
  have F_right_o0 := F_right_o0'
  have F_heights_o0 := F_heights_o0'
  have F_root_o0 := F_root_o0'
  have F_best_o0 := F_best_o0'
  have F_unused_o0 := F_unused_o0'
  have F_free_o0 := F_free_o0'
  have F_count_o0 := F_count_o0'
  have F_highestFirst_o0 := F_highestFirst_o0'
  have V_o2 := V_o2'
  have V_o3 := V_o3'
  have V_o4 := V_o4'
  have V_o5 := V_o5'
  have V_o6 := V_o6'
  show own_Go p e below _ (T7.setTop (mkF m 56 (lA0_ o0 j0 j1) [(.int (1 : Int32)), (.ref o0)]))
  refine own_c2 (putF X7 hx hZ hown (host := "") (Or.inl (hW hw 23 rfl)) Via.refl rfl F_root_o0 E_o0 (Or.inl (hW hw 24 rfl)) (hW hw 2 rfl) (ty := .int) dE_ rfl rfl rfl rfl (hb hby d3_56)) fun T8 h8 X8 e8 W8 => ?_
  replace F_root_o0 := F_root_o0.same W8
  have nx1 : o2 ≠ o0 := (Ne.symm (own_nev E_o0 (hW hw 2 rfl) V_o2))
  have nx2 : o3 ≠ o0 := (Ne.symm (own_nev E_o0 (hW hw 2 rfl) V_o3))
  have nx3 : o4 ≠ o0 := (Ne.symm (own_nev E_o0 (hW hw 2 rfl) V_o4))
  have nx4 : o5 ≠ o0 := (Ne.symm (own_nev E_o0 (hW hw 2 rfl) V_o5))
  have nx5 : o6 ≠ o0 := (Ne.symm (own_nev E_o0 (hW hw 2 rfl) V_o6))
  replace E_o0 := E_o0.wr W8
  replace F_prices_o0 := F_prices_o0.other W8 (Or.inr (sn24 hw))
  replace F_sizes_o0 := F_sizes_o0.other W8 (Or.inr (sn25 hw))
  replace F_left_o0 := F_left_o0.other W8 (Or.inr (sn26 hw))
  replace F_right_o0 := F_right_o0.other W8 (Or.inr (sn27 hw))
  replace F_heights_o0 := F_heights_o0.other W8 (Or.inr (sn28 hw))
  replace F_best_o0 := F_best_o0.other W8 (Or.inr (sn29 hw))
  replace F_unused_o0 := F_unused_o0.other W8 (Or.inr (sn30 hw))
  replace F_free_o0 := F_free_o0.other W8 (Or.inr (sn31 hw))
  replace F_count_o0 := F_count_o0.other W8 (Or.inr (sn32 hw))
  replace F_highestFirst_o0 := F_highestFirst_o0.other W8 (Or.inr (sn33 hw))
  replace V_o2 := V_o2.other W8 nx1
  replace V_o3 := V_o3.other W8 nx2
  replace V_o4 := V_o4.other W8 nx3
  replace V_o5 := V_o5.other W8 nx4
  replace V_o6 := V_o6.other W8 nx5
  replace K0 := K0.wr W8 (Or.inl (List.mem_of_getElem? (i := 5) rfl))
  replace Z0 := Nat.le_trans Z0 (Keep.of_wr W8).1
  replace N0 := Fr.snoc X8 N0 g_o0
  show own_Go p e below _ (T8.setTop (mkF m 59 (lA0_ o0 j0 j1) []))
  refine own_by (B := T8.setTop (mkF m 61 (lA0_ o0 j0 j1) [(.ref o0), (.ref o0)])) (fun t k => ?_) ?_
  · refine XS.aloadN X8.here hx rfl (hb hby d3_59) rfl rfl ?_
    refine XS.aloadN X8.here hx rfl (hb hby d3_60) rfl rfl ?_
    exact k
  refine own_c1 (getF X8 hx hZ hown (host := "") (Or.inl (hW hw 23 rfl)) Via.refl e8 F_root_o0 rfl rfl (hb hby d3_61)) fun T9 X9 e9 => ?_
  show own_Go p e below _ (T9.setTop (mkF m 64 (lA0_ o0 j0 j1) [(.int (1 : Int32)), (.ref o0)]))
  refine own_c2 (putF X9 hx hZ hown (host := "") (Or.inl (hW hw 25 rfl)) Via.refl e9 F_best_o0 E_o0 (Or.inl (hW hw 26 rfl)) (hW hw 2 rfl) (ty := .int) dE_ rfl rfl rfl rfl (hb hby d3_64)) fun T10 h10 X10 e10 W10 => ?_
  replace F_best_o0 := F_best_o0.same W10
  replace E_o0 := E_o0.wr W10
  replace F_prices_o0 := F_prices_o0.other W10 (Or.inr (sn34 hw))
  replace F_sizes_o0 := F_sizes_o0.other W10 (Or.inr (sn35 hw))
  replace F_left_o0 := F_left_o0.other W10 (Or.inr (sn36 hw))
  replace F_right_o0 := F_right_o0.other W10 (Or.inr (sn37 hw))
  replace F_heights_o0 := F_heights_o0.other W10 (Or.inr (sn38 hw))
  replace F_root_o0 := F_root_o0.other W10 (Or.inr (sn39 hw))
  replace F_unused_o0 := F_unused_o0.other W10 (Or.inr (sn40 hw))
  replace F_free_o0 := F_free_o0.other W10 (Or.inr (sn41 hw))
  replace F_count_o0 := F_count_o0.other W10 (Or.inr (sn42 hw))
  replace F_highestFirst_o0 := F_highestFirst_o0.other W10 (Or.inr (sn43 hw))
  replace V_o2 := V_o2.other W10 nx1
  replace V_o3 := V_o3.other W10 nx2
  replace V_o4 := V_o4.other W10 nx3
  replace V_o5 := V_o5.other W10 nx4
  replace V_o6 := V_o6.other W10 nx5
  replace K0 := K0.wr W10 (Or.inl (List.mem_of_getElem? (i := 5) rfl))
  replace Z0 := Nat.le_trans Z0 (Keep.of_wr W10).1
  replace N0 := Fr.snoc X10 N0 g_o0
  show own_Go p e below _ (T10.setTop (mkF m 67 (lA0_ o0 j0 j1) []))
  refine own_by (B := T10.setTop (mkF m 68 (lA0_ o0 j0 j1) [(.ref o0)])) (fun t k => ?_) ?_
  · refine XS.aloadN X10.here hx rfl (hb hby d3_67) rfl rfl ?_
    exact k
  refine own_c1 (getF X10 hx hZ hown (host := "") (Or.inl (hW hw 16 rfl)) Via.refl e10 F_left_o0 rfl rfl (hb hby d3_68)) fun T11 X11 e11 => ?_
  show own_Go p e below _ (T11.setTop (mkF m 71 (lA0_ o0 j0 j1) [(.ref o4)]))
  refine own_by (B := T11.setTop (mkF m 72 (lA0_ o0 j0 j1) [(.ref o0), (.ref o4)])) (fun t k => ?_) ?_
  · refine XS.aloadN X11.here hx rfl (hb hby d3_71) rfl rfl ?_
    exact k
  refine own_c1 (getF X11 hx hZ hown (host := "") (Or.inl (hW hw 25 rfl)) Via.refl e11 F_best_o0 rfl rfl (hb hby d3_72)) fun T12 X12 e12 => ?_
  show own_Go p e below _ (T12.setTop (mkF m 75 (lA0_ o0 j0 j1) [(.int (1 : Int32)), (.ref o4)]))
  refine own_by (B := T12.setTop (mkF m 95 (lA0_ o0 j0 j1) [])) (fun t k => ?_) ?_
  · obtain ⟨cl13, Ar13, q13, S13, N13, H13, G13⟩ := id V_o4
    have hin13 : ¬ ((1 : Int32) < 0 ∨ cl13.slots.size ≤ ((1 : Int32)).toNatClampNeg) := inb_of S13 ⟨by decide, by decide⟩
    have hat13 : cl13.slots[((1 : Int32)).toNatClampNeg]? = some oZ := H13.at hin13 rfl
    refine X12.iaload hx (j := (1 : Int32)) (v := oZ) (by rw [show T12.heap = h10 from e12]; exact Ar13.1) (State.isArrayOf_alike hZ.alike Ar13.2.1) Ar13.2.2 hin13 hat13 (g := (mkF m 75 (lA0_ o0 j0 j1) [(.int (1 : Int32)), (.ref o4)])) rfl rfl (hb hby d3_75) _ ?_
    show Steps p.tables e below (T12.setTop (mkF m 76 (lA0_ o0 j0 j1) [oZ])) _
    refine XS.ifYes X12.here hx rfl (pc0 := 76) (pc' := 95) rfl (hb hby d3_76) rfl ((if0 _ _).trans (teq (by decide : (0 : Int32) = (0 : Int32))).1) dE_ dE_ ?_
    show Steps p.tables e below (T12.setTop (mkF m 95 (lA0_ o0 j0 j1) [])) _
    exact k
  exact own_retV X12 Bd.notSynchronized hx Bd.returns (hb hby d3_95) (by
      try rw [show T12.heap = h10 from e12]
      exact ⟨rfl, N0, K0, V_o6, V_o5, V_o4, V_o3, V_o2, E_o0, F_prices_o0, F_sizes_o0, F_left_o0, F_right_o0, F_heights_o0, F_root_o0, F_best_o0, F_unused_o0, F_free_o0, F_count_o0, F_highestFirst_o0⟩) dE_ dE_

def Q18_54 (Z : State) (o0 o1 : Addr) (o3 o4 : Addr) (o5 o6 : Addr) (o8 o9 : Addr) (i6 : Int32) (k0 : ClassId) (j0 j1 j2 : Int64) (k1 : ClassId) (j3 j4 j5 : Int64) (k2 : ClassId) (i7 i8 i9 : Int32) (k3 : ClassId) (i10 i11 i12 : Int32) (k5 : ClassId) (h0 : Heap) (n0 : Nat) (v : Option Value) (h : Heap) (L : List Loc) : Prop := ∃ b5 : Addr, v = none ∧ Fr n0 L ∧ Keep h0 h [o8, o1] ∧ Arv Z h o8 k5 (.object c3_) (2 : Int32) [(.ref o9), (.ref b5)] .null ∧ Exa Z h o1 c1_ ∧ Fld Z h o1 c6_ "modCount" "I" (.int (i6 + (1 : Int32))) ∧ Fld Z h o1 c1_ "elementData" c5_ (.ref o8) ∧ Fld Z h o1 c1_ "size" "I" (.int (2 : Int32)) ∧ Exa Z h b5 c2_ ∧ Fld Z h b5 c2_ "price" "J" (.long j2) ∧ Fld Z h b5 c2_ "size" "J" (.long j5) ∧ h0.size ≤ b5
set_option maxRecDepth 65536 in
set_option maxHeartbeats 40000000 in
theorem rm18_54 (l : Launch) (Z : State) (a0 : Array Value) (hw : oW_ a0 Z) (ws : List Jvm.Cond) (o0 o1 : Addr) (o3 o4 : Addr) (o5 o6 : Addr) (o8 o9 : Addr) (i6 : Int32) (k0 : ClassId) (j0 j1 j2 : Int64) (k1 : ClassId) (j3 j4 j5 : Int64) (k2 : ClassId) (i7 i8 i9 : Int32) (k3 : ClassId) (i10 i11 i12 : Int32) (k5 : ClassId) (h0 : Heap) (n0 : Nat) (Z0 : n0 ≤ h0.size) (E_o0 : Exa Z h0 o0 c0_) (F_prices_o0 : Fld Z h0 o0 c0_ "prices" "[J" (.ref o3)) (F_sizes_o0 : Fld Z h0 o0 c0_ "sizes" "[J" (.ref o4)) (F_left_o0 : Fld Z h0 o0 c0_ "left" "[I" (.ref o5)) (F_right_o0 : Fld Z h0 o0 c0_ "right" "[I" (.ref o6)) (g_o1 : n0 ≤ o1) (E_o1 : Exa Z h0 o1 c1_) (F_modCount_o1 : Fld Z h0 o1 c6_ "modCount" "I" (.int i6)) (F_elementData_o1 : Fld Z h0 o1 c1_ "elementData" c5_ (.ref o8)) (F_size_o1 : Fld Z h0 o1 c1_ "size" "I" (.int (1 : Int32))) (V_o3 : Arv Z h0 o3 k0 .long (8 : Int32) [(.long j0), (.long j1), (.long j2)] oY) (V_o4 : Arv Z h0 o4 k1 .long (8 : Int32) [(.long j3), (.long j4), (.long j5)] oY) (V_o5 : Arv Z h0 o5 k2 .int (8 : Int32) [(.int i7), (.int i8), (.int i9)] oZ) (V_o6 : Arv Z h0 o6 k3 .int (8 : Int32) [(.int i10), (.int i11), (.int i12)] oZ) (g_o8 : n0 ≤ o8) (V_o8 : Arv Z h0 o8 k5 (.object c3_) (2 : Int32) [(.ref o9)] .null) (Ov_k5 : Ovr Z k5 c3_) (hp0 : i9 = (0 : Int32)) (ne_o3_o8 : o3 ≠ o8) (ne_o4_o8 : o4 ≠ o8) (ne_o5_o8 : o5 ≠ o8) (ne_o6_o8 : o6 ≠ o8) (hp1 : i12 = (0 : Int32)) :
    MetFree l y10_ (head1 (Jvm.Cond.code y10_ prog_3_method_7_code 3 none :: ws) (rM_ 3 1 2 42)) (fun a U => a = #[(.ref o0), (.int (2 : Int32)), (.ref o1)] ∧ Z.Warmed39 U.vm ∧ U.heap = h0) (fun _ _ _ _ _ => True) (fun _ U o U' => ∃ v L, o = .returned v ∧ Q18_54 Z o0 o1 o3 o4 o5 o6 o8 o9 i6 k0 j0 j1 j2 k1 j3 j4 j5 k2 i7 i8 i9 k3 i10 i11 i12 k5 h0 n0 v U'.heap L ∧ FrameEnd U o U' L (rM_ 3 1 2 42).cells (rM_ 3 1 2 42).slots) := by
  refine MetFree.of_bodySF (plainFor_of_name pn_18) hisR ?_
  intro p e s m args below meth c s₁ Bd hml0 hP hK
  obtain ⟨rfl, hZ, hh⟩ := hP
  have hx := Bd.exec
  have hby := Bd.bytes
  have hml : c.maxLocals = 3 := hml0
  have hown : s.vm.findClass c0_ = some m.cls := findClass_of_methodNamed Bd.named
  have hnm := (name_of_methodNamed Bd.named Bd.method).1
  have X0 : Stand p l e (rM_ 3 1 2 42) s m #[(.ref o0), (.int (2 : Int32)), (.ref o1)] below meth c s₁ [] 0 0 := Stand.of_body Bd
  have e0 : s₁.heap = h0 := by rw [← hh, Bd.state]; rfl
  have N0 := Fr.nil n0
  have K0 : Keep h0 h0 [o8, o1] := Keep.refl h0 _
  change own_Go p e below (own_Post s (Q18_54 Z o0 o1 o3 o4 o5 o6 o8 o9 i6 k0 j0 j1 j2 k1 j3 j4 j5 k2 i7 i8 i9 k3 i10 i11 i12 k5 h0 n0) (rM_ 3 1 2 42).cells (rM_ 3 1 2 42).slots) (s₁.setTop (entryFrame m #[(.ref o0), (.int (2 : Int32)), (.ref o1)] 3))
  refine own_by (fun t k => castTop (ef_18 m o0 (2 : Int32) o1) k) ?_
  show own_Go p e below _ (s₁.setTop (mkF m 0 #[rv o0, iv (2 : Int32), rv o1] []))
  refine own_by (B := s₁.setTop (mkF m 6 #[rv o0, iv (2 : Int32), rv o1] [(.ref o0), (.ref o0)])) (fun t k => ?_) ?_
  · refine XS.iloadN X0.here hx rfl (hb hby d18_0) rfl ?_
    refine XS.ifNo X0.here hx rfl (hb hby d18_1) rfl ((if0 _ _).trans (feq (by decide : ¬ ((2 : Int32) = (0 : Int32)))).1) ?_
    show Steps p.tables e below (s₁.setTop (mkF m 4 #[rv o0, iv (2 : Int32), rv o1] [])) _
    refine XS.aloadN X0.here hx rfl (hb hby d18_4) rfl rfl ?_
    refine XS.aloadN X0.here hx rfl (hb hby d18_5) rfl rfl ?_
    exact k
  refine own_c1 (getF X0 hx hZ hown (host := "") (Or.inl (hW hw 16 rfl)) Via.refl e0 F_left_o0 rfl rfl (hb hby d18_6)) fun T1 X1 e1 => ?_
  show own_Go p e below _ (T1.setTop (mkF m 9 #[rv o0, iv (2 : Int32), rv o1] [(.ref o5), (.ref o0)]))
  refine own_by (B := T1.setTop (mkF m 12 #[rv o0, iv (2 : Int32), rv o1] [(.ref o1), (.int i9), (.ref o0)])) (fun t k => ?_) ?_
  · refine XS.iloadN X1.here hx rfl (hb hby d18_9) rfl ?_
    obtain ⟨cl2, Ar2, q2, S2, N2, H2, G2⟩ := id V_o5
    have hin2 : ¬ ((2 : Int32) < 0 ∨ cl2.slots.size ≤ ((2 : Int32)).toNatClampNeg) := inb_of S2 ⟨by decide, by decide⟩
    have hat2 : cl2.slots[((2 : Int32)).toNatClampNeg]? = some (.int i9) := H2.at hin2 rfl
    refine X1.iaload hx (j := (2 : Int32)) (v := (.int i9)) (by rw [show T1.heap = h0 from e1]; exact Ar2.1) (State.isArrayOf_alike hZ.alike Ar2.2.1) Ar2.2.2 hin2 hat2 (g := (mkF m 10 #[rv o0, iv (2 : Int32), rv o1] [(.int (2 : Int32)), (.ref o5), (.ref o0)])) rfl rfl (hb hby d18_10) _ ?_
    show Steps p.tables e below (T1.setTop (mkF m 11 #[rv o0, iv (2 : Int32), rv o1] [(.int i9), (.ref o0)])) _
    refine XS.aloadN X1.here hx rfl (hb hby d18_11) rfl rfl ?_
    exact k
  refine own_cc (own_callP X1 hx hZ (y := y10_) hown (hW hw 112 rfl) (hW hw 113 rfl) (hW hw 3 rfl) (hW hw 115 rfl) (hW hw 114 rfl) (hW hw 2 rfl) dE_ (rm18_6 l Z a0 hw [] o0 i9 o1 h0 n0 Z0 hp0) e1 0 dE_ dE_ dE_ dE_ rfl (by rw [hml]; rfl) o0 E_o0 [(.int i9), (.ref o1)] [] rfl (lenOf pd_10 rfl) rfl (by show 2 * 0 + _ ≤ _; exact Nat.le_of_eq rfl) (hb hby d18_12)) fun T4 L4 v4 X4 hQ4 => ?_
  obtain ⟨rfl, N4, e4⟩ := hQ4
  replace N0 := Fr.app N0 N4
  show own_Go p e below _ (T4.setTop (mkF m 15 #[rv o0, iv (2 : Int32), rv o1] []))
  refine own_by (B := T4.setTop (mkF m 16 #[rv o0, iv (2 : Int32), rv o1] [(.ref o1)])) (fun t k => ?_) ?_
  · refine XS.aloadN X4.here hx rfl (hb hby d18_15) rfl rfl ?_
    exact k
  obtain ⟨T5, h5, X5, e5, E5, A5, D5, -, st5⟩ := newO X4 hx hZ hown (hW hw 129 rfl) (hW hw 130 rfl) (hW hw 131 rfl) e4 (g := (mkF m 16 #[rv o0, iv (2 : Int32), rv o1] [(.ref o1)])) rfl (hb hby d18_16) dE_ dE_
  obtain ⟨b5, g5⟩ : ∃ z, z = h0.size := ⟨_, rfl⟩
  rw [← g5] at A5 D5 st5
  have g_b5 : n0 ≤ b5 := Nat.le_trans Z0 (Nat.le_of_eq g5.symm)
  have sz_b5 : h0.size ≤ b5 := Nat.le_trans K0.1 (Nat.le_of_eq g5.symm)
  have ne_o0_b5 : o0 ≠ b5 := Nat.ne_of_lt (Nat.lt_of_lt_of_le E_o0.lt (Nat.le_of_eq g5.symm))
  have ne_o1_b5 : o1 ≠ b5 := Nat.ne_of_lt (Nat.lt_of_lt_of_le E_o1.lt (Nat.le_of_eq g5.symm))
  have ne_o3_b5 : o3 ≠ b5 := Nat.ne_of_lt (Nat.lt_of_lt_of_le V_o3.lt (Nat.le_of_eq g5.symm))
  have ne_o4_b5 : o4 ≠ b5 := Nat.ne_of_lt (Nat.lt_of_lt_of_le V_o4.lt (Nat.le_of_eq g5.symm))
  have ne_o5_b5 : o5 ≠ b5 := Nat.ne_of_lt (Nat.lt_of_lt_of_le V_o5.lt (Nat.le_of_eq g5.symm))
  have ne_o6_b5 : o6 ≠ b5 := Nat.ne_of_lt (Nat.lt_of_lt_of_le V_o6.lt (Nat.le_of_eq g5.symm))
  have ne_o8_b5 : o8 ≠ b5 := Nat.ne_of_lt (Nat.lt_of_lt_of_le V_o8.lt (Nat.le_of_eq g5.symm))
  replace E_o0 := E_o0.ext E5
  replace F_prices_o0 := F_prices_o0.ext E5
  replace F_sizes_o0 := F_sizes_o0.ext E5
  replace F_left_o0 := F_left_o0.ext E5
  replace F_right_o0 := F_right_o0.ext E5
  replace E_o1 := E_o1.ext E5
  replace F_modCount_o1 := F_modCount_o1.ext E5
  replace F_elementData_o1 := F_elementData_o1.ext E5
  replace F_size_o1 := F_size_o1.ext E5
  replace V_o3 := V_o3.ext E5
  replace V_o4 := V_o4.ext E5
  replace V_o5 := V_o5.ext E5
  replace V_o6 := V_o6.ext E5
  replace V_o8 := V_o8.ext E5
  replace K0 := K0.ext E5
  replace Z0 := Nat.le_trans Z0 E5.1
  have E_b5 := A5
  have F_price_b5 : Fld Z h5 b5 c2_ "price" "J" oY := D5 (Or.inr (hW hw 142 rfl)) (ty := .long) dE_
  have F_size_b5 : Fld Z h5 b5 c2_ "size" "J" oY := D5 (Or.inr (hW hw 144 rfl)) (ty := .long) dE_
  refine own_by st5 ?_
  show own_Go p e below _ (T5.setTop (mkF m 19 #[rv o0, iv (2 : Int32), rv o1] [(.ref b5), (.ref o1)]))
  refine own_by (B := T5.setTop (mkF m 21 #[rv o0, iv (2 : Int32), rv o1] [(.ref o0), (.ref b5), (.ref b5), (.ref o1)])) (fun t k => ?_) ?_
  · refine XS.dup X5.here hx rfl (hb hby d18_19) rfl rfl ?_
    refine XS.aloadN X5.here hx rfl (hb hby d18_20) rfl rfl ?_
    exact k
  refine own_c1 (getF X5 hx hZ hown (host := "") (Or.inl (hW hw 11 rfl)) Via.refl e5 F_prices_o0 rfl rfl (hb hby d18_21)) fun T6 X6 e6 => ?_
  show own_Go p e below _ (T6.setTop (mkF m 24 #[rv o0, iv (2 : Int32), rv o1] [(.ref o3), (.ref b5), (.ref b5), (.ref o1)]))
  refine own_by (B := T6.setTop (mkF m 27 #[rv o0, iv (2 : Int32), rv o1] [(.ref o0), (.long j2), (.ref b5), (.ref b5), (.ref o1)])) (fun t k => ?_) ?_
  · refine XS.iloadN X6.here hx rfl (hb hby d18_24) rfl ?_
    obtain ⟨cl7, Ar7, q7, S7, N7, H7, G7⟩ := id V_o3
    have hin7 : ¬ ((2 : Int32) < 0 ∨ cl7.slots.size ≤ ((2 : Int32)).toNatClampNeg) := inb_of S7 ⟨by decide, by decide⟩
    have hat7 : cl7.slots[((2 : Int32)).toNatClampNeg]? = some (.long j2) := H7.at hin7 rfl
    refine X6.laload hx (j := (2 : Int32)) (v := (.long j2)) (by rw [show T6.heap = h5 from e6]; exact Ar7.1) (State.isArrayOf_alike hZ.alike Ar7.2.1) Ar7.2.2 hin7 hat7 (g := (mkF m 25 #[rv o0, iv (2 : Int32), rv o1] [(.int (2 : Int32)), (.ref o3), (.ref b5), (.ref b5), (.ref o1)])) rfl rfl (hb hby d18_25) _ ?_
    show Steps p.tables e below (T6.setTop (mkF m 26 #[rv o0, iv (2 : Int32), rv o1] [(.long j2), (.ref b5), (.ref b5), (.ref o1)])) _
    refine XS.aloadN X6.here hx rfl (hb hby d18_26) rfl rfl ?_
    exact k
  refine own_c1 (getF X6 hx hZ hown (host := "") (Or.inl (hW hw 13 rfl)) Via.refl e6 F_sizes_o0 rfl rfl (hb hby d18_27)) fun T8 X8 e8 => ?_
  show own_Go p e below _ (T8.setTop (mkF m 30 #[rv o0, iv (2 : Int32), rv o1] [(.ref o4), (.long j2), (.ref b5), (.ref b5), (.ref o1)]))
  refine own_by (B := T8.setTop (mkF m 32 #[rv o0, iv (2 : Int32), rv o1] [(.long j5), (.long j2), (.ref b5), (.ref b5), (.ref o1)])) (fun t k => ?_) ?_
  · refine XS.iloadN X8.here hx rfl (hb hby d18_30) rfl ?_
    obtain ⟨cl9, Ar9, q9, S9, N9, H9, G9⟩ := id V_o4
    have hin9 : ¬ ((2 : Int32) < 0 ∨ cl9.slots.size ≤ ((2 : Int32)).toNatClampNeg) := inb_of S9 ⟨by decide, by decide⟩
    have hat9 : cl9.slots[((2 : Int32)).toNatClampNeg]? = some (.long j5) := H9.at hin9 rfl
    refine X8.laload hx (j := (2 : Int32)) (v := (.long j5)) (by rw [show T8.heap = h5 from e8]; exact Ar9.1) (State.isArrayOf_alike hZ.alike Ar9.2.1) Ar9.2.2 hin9 hat9 (g := (mkF m 31 #[rv o0, iv (2 : Int32), rv o1] [(.int (2 : Int32)), (.ref o4), (.long j2), (.ref b5), (.ref b5), (.ref o1)])) rfl rfl (hb hby d18_31) _ ?_
    show Steps p.tables e below (T8.setTop (mkF m 32 #[rv o0, iv (2 : Int32), rv o1] [(.long j5), (.long j2), (.ref b5), (.ref b5), (.ref o1)])) _
    exact k
  refine own_cc (own_callI X8 hx hZ (y := y17_) rfl hown (hW hw 132 rfl) (hW hw 133 rfl) (hW hw 131 rfl) (hW hw 134 rfl) dE_ (rm20_16 l Z a0 hw [] b5 j2 j5 (0 : Int64) (0 : Int64) h5 n0 Z0 g_b5 E_b5 F_price_b5 F_size_b5) e8 2 dE_ dE_ dE_ dE_ rfl (by rw [hml]; rfl) b5 [(.long j2), (.long j5)] [(.ref b5), (.ref o1)] rfl (lenOf pd_2 rfl) rfl (by show 2 * 0 + _ ≤ _; exact Nat.le_of_eq rfl) (hb hby d18_32)) fun T11 L11 v11 X11 hQ11 => ?_
  obtain ⟨rfl, N11, K11, E_b5', F_price_b5', F_size_b5'⟩ := hQ11
  replace N0 := Fr.app N0 N11
  replace E_o0 := E_o0.keep K11
  replace F_prices_o0 := F_prices_o0.keep K11 (ninS ne_o0_b5 nin0)
  replace F_sizes_o0 := F_sizes_o0.keep K11 (ninS ne_o0_b5 nin0)
  replace F_left_o0 := F_left_o0.keep K11 (ninS ne_o0_b5 nin0)
  replace F_right_o0 := F_right_o0.keep K11 (ninS ne_o0_b5 nin0)
  replace E_o1 := E_o1.keep K11
  replace F_modCount_o1 := F_modCount_o1.keep K11 (ninS ne_o1_b5 nin0)
  replace F_elementData_o1 := F_elementData_o1.keep K11 (ninS ne_o1_b5 nin0)
  replace F_size_o1 := F_size_o1.keep K11 (ninS ne_o1_b5 nin0)
  replace V_o3 := V_o3.keep K11 (ninS ne_o3_b5 nin0)
  replace V_o4 := V_o4.keep K11 (ninS ne_o4_b5 nin0)
  replace V_o5 := V_o5.keep K11 (ninS ne_o5_b5 nin0)
  replace V_o6 := V_o6.keep K11 (ninS ne_o6_b5 nin0)
  replace V_o8 := V_o8.keep K11 (ninS ne_o8_b5 nin0)
  replace E_b5 := E_b5.keep K11
  replace K0 := K0.trans K11 (allS (Or.inr sz_b5) all0)
  replace Z0 := Nat.le_trans Z0 K11.1
  replace E_b5 := E_b5'
  have F_price_b5 := F_price_b5'
  have F_size_b5 := F_size_b5'
  show own_Go p e below _ (T11.setTop (mkF m 35 #[rv o0, iv (2 : Int32), rv o1] [(.ref b5), (.ref o1)]))
  refine own_cc (own_callF X11 hx hZ (y := y20_) (z := y19_) hown (hW hw 145 rfl) (hW hw 146 rfl) (hW hw 147 rfl) (hW hw 148 rfl) (hW hw 149 rfl) (hW hw 150 rfl) (hW hw 151 rfl) (hW hw 123 rfl) (hW hw 90 rfl) (hW hw 152 rfl) dE_ (rm22_40 l Z a0 hw [] o1 b5 o8 o9 i6 k5 T11.heap n0 Z0 g_o1 E_o1 F_modCount_o1 F_elementData_o1 F_size_o1 E_b5 g_o8 V_o8 Ov_k5) (rfl : T11.heap = _) 0 dE_ dE_ dE_ dE_ rfl (by rw [hml]; rfl) o1 E_o1 [(.ref b5)] [] rfl (lenOf pd_12 rfl) rfl (by show 2 * 0 + _ ≤ _; exact Nat.le_of_eq rfl) (hb hby d18_35)) fun T13 L13 v13 X13 hQ13 => ?_
  obtain ⟨rfl, N13, K13, E_o1', F_modCount_o1', F_elementData_o1', F_size_o1', V_o8'⟩ := hQ13
  replace N0 := Fr.app N0 N13
  have nx1 : o0 ≠ o1 := (ne_exa E_o0 E_o1 dE_)
  have nx2 : o0 ≠ o8 := (own_nev E_o0 (hW hw 2 rfl) V_o8)
  have nx3 : o3 ≠ o1 := (Ne.symm (own_nev E_o1 (hW hw 89 rfl) V_o3))
  have nx4 : o4 ≠ o1 := (Ne.symm (own_nev E_o1 (hW hw 89 rfl) V_o4))
  have nx5 : o5 ≠ o1 := (Ne.symm (own_nev E_o1 (hW hw 89 rfl) V_o5))
  have nx6 : o6 ≠ o1 := (Ne.symm (own_nev E_o1 (hW hw 89 rfl) V_o6))
  replace E_o0 := E_o0.keep K13
  replace F_prices_o0 := F_prices_o0.keep K13 (ninS nx1 (ninS nx2 nin0))
  replace F_sizes_o0 := F_sizes_o0.keep K13 (ninS nx1 (ninS nx2 nin0))
  replace F_left_o0 := F_left_o0.keep K13 (ninS nx1 (ninS nx2 nin0))
  replace F_right_o0 := F_right_o0.keep K13 (ninS nx1 (ninS nx2 nin0))
  replace E_o1 := E_o1.keep K13
  replace V_o3 := V_o3.keep K13 (ninS nx3 (ninS ne_o3_o8 nin0))
  replace V_o4 := V_o4.keep K13 (ninS nx4 (ninS ne_o4_o8 nin0))
  replace V_o5 := V_o5.keep K13 (ninS nx5 (ninS ne_o5_o8 nin0))
  replace V_o6 := V_o6.keep K13 (ninS nx6 (ninS ne_o6_o8 nin0))
  replace E_b5 := E_b5.keep K13
  replace F_price_b5 := F_price_b5.keep K13 (ninS (Ne.symm ne_o1_b5) (ninS (Ne.symm ne_o8_b5) nin0))
  replace F_size_b5 := F_size_b5.keep K13 (ninS (Ne.symm ne_o1_b5) (ninS (Ne.symm ne_o8_b5) nin0))
  replace K0 := K0.trans K13 (allS (Or.inl (List.mem_of_getElem? (i := 1) rfl)) (allS (Or.inl (List.mem_of_getElem? (i := 0) rfl)) all0))
  replace Z0 := Nat.le_trans Z0 K13.1
  replace E_o1 := E_o1'
  have F_modCount_o1 := F_modCount_o1'
  have F_elementData_o1 := F_elementData_o1'
  have F_size_o1 := F_size_o1'
  have V_o8 := V_o8'
  show own_Go p e below _ (T13.setTop (mkF m 40 #[rv o0, iv (2 : Int32), rv o1] [(.int (1 : Int32))]))
  refine own_by (B := T13.setTop (mkF m 43 #[rv o0, iv (2 : Int32), rv o1] [(.ref o0), (.ref o0)])) (fun t k => ?_) ?_
  · refine XS.pop X13.here hx rfl (hb hby d18_40) rfl rfl ?_
    show Steps p.tables e below (T13.setTop (mkF m 41 #[rv o0, iv (2 : Int32), rv o1] [])) _
    refine XS.aloadN X13.here hx rfl (hb hby d18_41) rfl rfl ?_
    refine XS.aloadN X13.here hx rfl (hb hby d18_42) rfl rfl ?_
    exact k
  refine own_c1 (getF X13 hx hZ hown (host := "") (Or.inl (hW hw 18 rfl)) Via.refl rfl F_right_o0 rfl rfl (hb hby d18_43)) fun T14 X14 e14 => ?_
  show own_Go p e below _ (T14.setTop (mkF m 46 #[rv o0, iv (2 : Int32), rv o1] [(.ref o6), (.ref o0)]))
  refine own_by (B := T14.setTop (mkF m 49 #[rv o0, iv (2 : Int32), rv o1] [(.ref o1), (.int i12), (.ref o0)])) (fun t k => ?_) ?_
  · refine XS.iloadN X14.here hx rfl (hb hby d18_46) rfl ?_
    obtain ⟨cl15, Ar15, q15, S15, N15, H15, G15⟩ := id V_o6
    have hin15 : ¬ ((2 : Int32) < 0 ∨ cl15.slots.size ≤ ((2 : Int32)).toNatClampNeg) := inb_of S15 ⟨by decide, by decide⟩
    have hat15 : cl15.slots[((2 : Int32)).toNatClampNeg]? = some (.int i12) := H15.at hin15 rfl
    refine X14.iaload hx (j := (2 : Int32)) (v := (.int i12)) (by rw [show T14.heap = T13.heap from e14]; exact Ar15.1) (State.isArrayOf_alike hZ.alike Ar15.2.1) Ar15.2.2 hin15 hat15 (g := (mkF m 47 #[rv o0, iv (2 : Int32), rv o1] [(.int (2 : Int32)), (.ref o6), (.ref o0)])) rfl rfl (hb hby d18_47) _ ?_
    show Steps p.tables e below (T14.setTop (mkF m 48 #[rv o0, iv (2 : Int32), rv o1] [(.int i12), (.ref o0)])) _
    refine XS.aloadN X14.here hx rfl (hb hby d18_48) rfl rfl ?_
    exact k
  refine own_cc (own_callP X14 hx hZ (y := y10_) hown (hW hw 112 rfl) (hW hw 113 rfl) (hW hw 3 rfl) (hW hw 115 rfl) (hW hw 114 rfl) (hW hw 2 rfl) dE_ (rm18_6 l Z a0 hw [] o0 i12 o1 T13.heap n0 Z0 hp1) e14 0 dE_ dE_ dE_ dE_ rfl (by rw [hml]; rfl) o0 E_o0 [(.int i12), (.ref o1)] [] rfl (lenOf pd_10 rfl) rfl (by show 2 * 0 + _ ≤ _; exact Nat.le_of_eq rfl) (hb hby d18_49)) fun T17 L17 v17 X17 hQ17 => ?_
  obtain ⟨rfl, N17, e17⟩ := hQ17
  replace N0 := Fr.app N0 N17
  show own_Go p e below _ (T17.setTop (mkF m 52 #[rv o0, iv (2 : Int32), rv o1] []))
  exact own_retV X17 Bd.notSynchronized hx Bd.returns (hb hby d18_52) (by
      try rw [show T17.heap = T13.heap from e17]
      exact ⟨b5, rfl, N0, K0, V_o8, E_o1, F_modCount_o1, F_elementData_o1, F_size_o1, E_b5, F_price_b5, F_size_b5, sz_b5⟩) dE_ dE_

def Q18_55 (Z : State) (o0 o1 : Addr) (o3 o4 : Addr) (o5 o6 o8 : Addr) (i6 : Int32) (k0 : ClassId) (j0 j1 j2 : Int64) (k1 : ClassId) (j3 j4 j5 : Int64) (k2 : ClassId) (i7 i8 i9 : Int32) (k3 : ClassId) (i10 i11 : Int32) (k5 : ClassId) (h0 : Heap) (n0 : Nat) (v : Option Value) (h : Heap) (L : List Loc) : Prop := ∃ b5 : Addr, ∃ b5_17 : Addr, v = none ∧ Fr n0 L ∧ Keep h0 h [o8, o1] ∧ Arv Z h o8 k5 (.object c3_) (2 : Int32) [(.ref b5), (.ref b5_17)] .null ∧ Exa Z h o1 c1_ ∧ Fld Z h o1 c6_ "modCount" "I" (.int ((i6 + (1 : Int32)) + (1 : Int32))) ∧ Fld Z h o1 c1_ "elementData" c5_ (.ref o8) ∧ Fld Z h o1 c1_ "size" "I" (.int (2 : Int32)) ∧ Exa Z h b5 c2_ ∧ Fld Z h b5 c2_ "price" "J" (.long j1) ∧ Fld Z h b5 c2_ "size" "J" (.long j4) ∧ Exa Z h b5_17 c2_ ∧ Fld Z h b5_17 c2_ "price" "J" (.long j2) ∧ Fld Z h b5_17 c2_ "size" "J" (.long j5) ∧ h0.size ≤ b5 ∧ h0.size ≤ b5_17 ∧ b5 ≠ b5_17
set_option maxRecDepth 65536 in
set_option maxHeartbeats 40000000 in
theorem rm18_55 (l : Launch) (Z : State) (a0 : Array Value) (hw : oW_ a0 Z) (ws : List Jvm.Cond) (o0 o1 : Addr) (o3 o4 : Addr) (o5 o6 o8 : Addr) (i6 : Int32) (k0 : ClassId) (j0 j1 j2 : Int64) (k1 : ClassId) (j3 j4 j5 : Int64) (k2 : ClassId) (i7 i8 i9 : Int32) (k3 : ClassId) (i10 i11 : Int32) (k5 : ClassId) (h0 : Heap) (n0 : Nat) (Z0 : n0 ≤ h0.size) (E_o0 : Exa Z h0 o0 c0_) (F_prices_o0 : Fld Z h0 o0 c0_ "prices" "[J" (.ref o3)) (F_sizes_o0 : Fld Z h0 o0 c0_ "sizes" "[J" (.ref o4)) (F_left_o0 : Fld Z h0 o0 c0_ "left" "[I" (.ref o5)) (F_right_o0 : Fld Z h0 o0 c0_ "right" "[I" (.ref o6)) (g_o1 : n0 ≤ o1) (E_o1 : Exa Z h0 o1 c1_) (F_modCount_o1 : Fld Z h0 o1 c6_ "modCount" "I" (.int i6)) (F_elementData_o1 : Fld Z h0 o1 c1_ "elementData" c5_ (.ref o8)) (F_size_o1 : Fld Z h0 o1 c1_ "size" "I" oZ) (V_o3 : Arv Z h0 o3 k0 .long (8 : Int32) [(.long j0), (.long j1), (.long j2)] oY) (V_o4 : Arv Z h0 o4 k1 .long (8 : Int32) [(.long j3), (.long j4), (.long j5)] oY) (V_o5 : Arv Z h0 o5 k2 .int (8 : Int32) [(.int i7), (.int i8), (.int i9)] oZ) (V_o6 : Arv Z h0 o6 k3 .int (8 : Int32) [(.int i10), (.int (2 : Int32)), (.int i11)] oZ) (g_o8 : n0 ≤ o8) (V_o8 : Arv Z h0 o8 k5 (.object c3_) (2 : Int32) [] .null) (Ov_k5 : Ovr Z k5 c3_) (hp0 : i8 = (0 : Int32)) (ne_o3_o8 : o3 ≠ o8) (ne_o4_o8 : o4 ≠ o8) (ne_o5_o8 : o5 ≠ o8) (ne_o6_o8 : o6 ≠ o8) (hp1 : i9 = (0 : Int32)) (hp2 : i11 = (0 : Int32)) :
    MetFree l y10_ (head1 (Jvm.Cond.code y10_ prog_3_method_7_code 3 none :: ws) (rM_ 4 2 4 56)) (fun a U => a = #[(.ref o0), (.int (1 : Int32)), (.ref o1)] ∧ Z.Warmed39 U.vm ∧ U.heap = h0) (fun _ _ _ _ _ => True) (fun _ U o U' => ∃ v L, o = .returned v ∧ Q18_55 Z o0 o1 o3 o4 o5 o6 o8 i6 k0 j0 j1 j2 k1 j3 j4 j5 k2 i7 i8 i9 k3 i10 i11 k5 h0 n0 v U'.heap L ∧ FrameEnd U o U' L (rM_ 4 2 4 56).cells (rM_ 4 2 4 56).slots) := by
  refine MetFree.of_bodySF (plainFor_of_name pn_18) hisR ?_
  intro p e s m args below meth c s₁ Bd hml0 hP hK
  obtain ⟨rfl, hZ, hh⟩ := hP
  have hx := Bd.exec
  have hby := Bd.bytes
  have hml : c.maxLocals = 3 := hml0
  have hown : s.vm.findClass c0_ = some m.cls := findClass_of_methodNamed Bd.named
  have hnm := (name_of_methodNamed Bd.named Bd.method).1
  have X0 : Stand p l e (rM_ 4 2 4 56) s m #[(.ref o0), (.int (1 : Int32)), (.ref o1)] below meth c s₁ [] 0 0 := Stand.of_body Bd
  have e0 : s₁.heap = h0 := by rw [← hh, Bd.state]; rfl
  have N0 := Fr.nil n0
  have K0 : Keep h0 h0 [o8, o1] := Keep.refl h0 _
  change own_Go p e below (own_Post s (Q18_55 Z o0 o1 o3 o4 o5 o6 o8 i6 k0 j0 j1 j2 k1 j3 j4 j5 k2 i7 i8 i9 k3 i10 i11 k5 h0 n0) (rM_ 4 2 4 56).cells (rM_ 4 2 4 56).slots) (s₁.setTop (entryFrame m #[(.ref o0), (.int (1 : Int32)), (.ref o1)] 3))
  refine own_by (fun t k => castTop (ef_18 m o0 (1 : Int32) o1) k) ?_
  show own_Go p e below _ (s₁.setTop (mkF m 0 #[rv o0, iv (1 : Int32), rv o1] []))
  refine own_by (B := s₁.setTop (mkF m 6 #[rv o0, iv (1 : Int32), rv o1] [(.ref o0), (.ref o0)])) (fun t k => ?_) ?_
  · refine XS.iloadN X0.here hx rfl (hb hby d18_0) rfl ?_
    refine XS.ifNo X0.here hx rfl (hb hby d18_1) rfl ((if0 _ _).trans (feq (by decide : ¬ ((1 : Int32) = (0 : Int32)))).1) ?_
    show Steps p.tables e below (s₁.setTop (mkF m 4 #[rv o0, iv (1 : Int32), rv o1] [])) _
    refine XS.aloadN X0.here hx rfl (hb hby d18_4) rfl rfl ?_
    refine XS.aloadN X0.here hx rfl (hb hby d18_5) rfl rfl ?_
    exact k
  refine own_c1 (getF X0 hx hZ hown (host := "") (Or.inl (hW hw 16 rfl)) Via.refl e0 F_left_o0 rfl rfl (hb hby d18_6)) fun T1 X1 e1 => ?_
  show own_Go p e below _ (T1.setTop (mkF m 9 #[rv o0, iv (1 : Int32), rv o1] [(.ref o5), (.ref o0)]))
  refine own_by (B := T1.setTop (mkF m 12 #[rv o0, iv (1 : Int32), rv o1] [(.ref o1), (.int i8), (.ref o0)])) (fun t k => ?_) ?_
  · refine XS.iloadN X1.here hx rfl (hb hby d18_9) rfl ?_
    obtain ⟨cl2, Ar2, q2, S2, N2, H2, G2⟩ := id V_o5
    have hin2 : ¬ ((1 : Int32) < 0 ∨ cl2.slots.size ≤ ((1 : Int32)).toNatClampNeg) := inb_of S2 ⟨by decide, by decide⟩
    have hat2 : cl2.slots[((1 : Int32)).toNatClampNeg]? = some (.int i8) := H2.at hin2 rfl
    refine X1.iaload hx (j := (1 : Int32)) (v := (.int i8)) (by rw [show T1.heap = h0 from e1]; exact Ar2.1) (State.isArrayOf_alike hZ.alike Ar2.2.1) Ar2.2.2 hin2 hat2 (g := (mkF m 10 #[rv o0, iv (1 : Int32), rv o1] [(.int (1 : Int32)), (.ref o5), (.ref o0)])) rfl rfl (hb hby d18_10) _ ?_
    show Steps p.tables e below (T1.setTop (mkF m 11 #[rv o0, iv (1 : Int32), rv o1] [(.int i8), (.ref o0)])) _
    refine XS.aloadN X1.here hx rfl (hb hby d18_11) rfl rfl ?_
    exact k
  refine own_cc (own_callP X1 hx hZ (y := y10_) hown (hW hw 112 rfl) (hW hw 113 rfl) (hW hw 3 rfl) (hW hw 115 rfl) (hW hw 114 rfl) (hW hw 2 rfl) dE_ (rm18_6 l Z a0 hw [] o0 i8 o1 h0 n0 Z0 hp0) e1 0 dE_ dE_ dE_ dE_ rfl (by rw [hml]; rfl) o0 E_o0 [(.int i8), (.ref o1)] [] rfl (lenOf pd_10 rfl) rfl (by show 2 * 0 + _ ≤ _; exact Nat.le_of_eq rfl) (hb hby d18_12)) fun T4 L4 v4 X4 hQ4 => ?_
  obtain ⟨rfl, N4, e4⟩ := hQ4
  replace N0 := Fr.app N0 N4
  show own_Go p e below _ (T4.setTop (mkF m 15 #[rv o0, iv (1 : Int32), rv o1] []))
  refine own_by (B := T4.setTop (mkF m 16 #[rv o0, iv (1 : Int32), rv o1] [(.ref o1)])) (fun t k => ?_) ?_
  · refine XS.aloadN X4.here hx rfl (hb hby d18_15) rfl rfl ?_
    exact k
  obtain ⟨T5, h5, X5, e5, E5, A5, D5, -, st5⟩ := newO X4 hx hZ hown (hW hw 129 rfl) (hW hw 130 rfl) (hW hw 131 rfl) e4 (g := (mkF m 16 #[rv o0, iv (1 : Int32), rv o1] [(.ref o1)])) rfl (hb hby d18_16) dE_ dE_
  obtain ⟨b5, g5⟩ : ∃ z, z = h0.size := ⟨_, rfl⟩
  rw [← g5] at A5 D5 st5
  have g_b5 : n0 ≤ b5 := Nat.le_trans Z0 (Nat.le_of_eq g5.symm)
  have sz_b5 : h0.size ≤ b5 := Nat.le_trans K0.1 (Nat.le_of_eq g5.symm)
  have ne_o0_b5 : o0 ≠ b5 := Nat.ne_of_lt (Nat.lt_of_lt_of_le E_o0.lt (Nat.le_of_eq g5.symm))
  have ne_o1_b5 : o1 ≠ b5 := Nat.ne_of_lt (Nat.lt_of_lt_of_le E_o1.lt (Nat.le_of_eq g5.symm))
  have ne_o3_b5 : o3 ≠ b5 := Nat.ne_of_lt (Nat.lt_of_lt_of_le V_o3.lt (Nat.le_of_eq g5.symm))
  have ne_o4_b5 : o4 ≠ b5 := Nat.ne_of_lt (Nat.lt_of_lt_of_le V_o4.lt (Nat.le_of_eq g5.symm))
  have ne_o5_b5 : o5 ≠ b5 := Nat.ne_of_lt (Nat.lt_of_lt_of_le V_o5.lt (Nat.le_of_eq g5.symm))
  have ne_o6_b5 : o6 ≠ b5 := Nat.ne_of_lt (Nat.lt_of_lt_of_le V_o6.lt (Nat.le_of_eq g5.symm))
  have ne_o8_b5 : o8 ≠ b5 := Nat.ne_of_lt (Nat.lt_of_lt_of_le V_o8.lt (Nat.le_of_eq g5.symm))
  replace E_o0 := E_o0.ext E5
  replace F_prices_o0 := F_prices_o0.ext E5
  replace F_sizes_o0 := F_sizes_o0.ext E5
  replace F_left_o0 := F_left_o0.ext E5
  replace F_right_o0 := F_right_o0.ext E5
  replace E_o1 := E_o1.ext E5
  replace F_modCount_o1 := F_modCount_o1.ext E5
  replace F_elementData_o1 := F_elementData_o1.ext E5
  replace F_size_o1 := F_size_o1.ext E5
  replace V_o3 := V_o3.ext E5
  replace V_o4 := V_o4.ext E5
  replace V_o5 := V_o5.ext E5
  replace V_o6 := V_o6.ext E5
  replace V_o8 := V_o8.ext E5
  replace K0 := K0.ext E5
  replace Z0 := Nat.le_trans Z0 E5.1
  have E_b5 := A5
  have F_price_b5 : Fld Z h5 b5 c2_ "price" "J" oY := D5 (Or.inr (hW hw 142 rfl)) (ty := .long) dE_
  have F_size_b5 : Fld Z h5 b5 c2_ "size" "J" oY := D5 (Or.inr (hW hw 144 rfl)) (ty := .long) dE_
  refine own_by st5 ?_
  show own_Go p e below _ (T5.setTop (mkF m 19 #[rv o0, iv (1 : Int32), rv o1] [(.ref b5), (.ref o1)]))
  refine own_by (B := T5.setTop (mkF m 21 #[rv o0, iv (1 : Int32), rv o1] [(.ref o0), (.ref b5), (.ref b5), (.ref o1)])) (fun t k => ?_) ?_
  · refine XS.dup X5.here hx rfl (hb hby d18_19) rfl rfl ?_
    refine XS.aloadN X5.here hx rfl (hb hby d18_20) rfl rfl ?_
    exact k
  refine own_c1 (getF X5 hx hZ hown (host := "") (Or.inl (hW hw 11 rfl)) Via.refl e5 F_prices_o0 rfl rfl (hb hby d18_21)) fun T6 X6 e6 => ?_
  show own_Go p e below _ (T6.setTop (mkF m 24 #[rv o0, iv (1 : Int32), rv o1] [(.ref o3), (.ref b5), (.ref b5), (.ref o1)]))
  refine own_by (B := T6.setTop (mkF m 27 #[rv o0, iv (1 : Int32), rv o1] [(.ref o0), (.long j1), (.ref b5), (.ref b5), (.ref o1)])) (fun t k => ?_) ?_
  · refine XS.iloadN X6.here hx rfl (hb hby d18_24) rfl ?_
    obtain ⟨cl7, Ar7, q7, S7, N7, H7, G7⟩ := id V_o3
    have hin7 : ¬ ((1 : Int32) < 0 ∨ cl7.slots.size ≤ ((1 : Int32)).toNatClampNeg) := inb_of S7 ⟨by decide, by decide⟩
    have hat7 : cl7.slots[((1 : Int32)).toNatClampNeg]? = some (.long j1) := H7.at hin7 rfl
    refine X6.laload hx (j := (1 : Int32)) (v := (.long j1)) (by rw [show T6.heap = h5 from e6]; exact Ar7.1) (State.isArrayOf_alike hZ.alike Ar7.2.1) Ar7.2.2 hin7 hat7 (g := (mkF m 25 #[rv o0, iv (1 : Int32), rv o1] [(.int (1 : Int32)), (.ref o3), (.ref b5), (.ref b5), (.ref o1)])) rfl rfl (hb hby d18_25) _ ?_
    show Steps p.tables e below (T6.setTop (mkF m 26 #[rv o0, iv (1 : Int32), rv o1] [(.long j1), (.ref b5), (.ref b5), (.ref o1)])) _
    refine XS.aloadN X6.here hx rfl (hb hby d18_26) rfl rfl ?_
    exact k
  refine own_c1 (getF X6 hx hZ hown (host := "") (Or.inl (hW hw 13 rfl)) Via.refl e6 F_sizes_o0 rfl rfl (hb hby d18_27)) fun T8 X8 e8 => ?_
  show own_Go p e below _ (T8.setTop (mkF m 30 #[rv o0, iv (1 : Int32), rv o1] [(.ref o4), (.long j1), (.ref b5), (.ref b5), (.ref o1)]))
  refine own_by (B := T8.setTop (mkF m 32 #[rv o0, iv (1 : Int32), rv o1] [(.long j4), (.long j1), (.ref b5), (.ref b5), (.ref o1)])) (fun t k => ?_) ?_
  · refine XS.iloadN X8.here hx rfl (hb hby d18_30) rfl ?_
    obtain ⟨cl9, Ar9, q9, S9, N9, H9, G9⟩ := id V_o4
    have hin9 : ¬ ((1 : Int32) < 0 ∨ cl9.slots.size ≤ ((1 : Int32)).toNatClampNeg) := inb_of S9 ⟨by decide, by decide⟩
    have hat9 : cl9.slots[((1 : Int32)).toNatClampNeg]? = some (.long j4) := H9.at hin9 rfl
    refine X8.laload hx (j := (1 : Int32)) (v := (.long j4)) (by rw [show T8.heap = h5 from e8]; exact Ar9.1) (State.isArrayOf_alike hZ.alike Ar9.2.1) Ar9.2.2 hin9 hat9 (g := (mkF m 31 #[rv o0, iv (1 : Int32), rv o1] [(.int (1 : Int32)), (.ref o4), (.long j1), (.ref b5), (.ref b5), (.ref o1)])) rfl rfl (hb hby d18_31) _ ?_
    show Steps p.tables e below (T8.setTop (mkF m 32 #[rv o0, iv (1 : Int32), rv o1] [(.long j4), (.long j1), (.ref b5), (.ref b5), (.ref o1)])) _
    exact k
  refine own_cc (own_callI X8 hx hZ (y := y17_) rfl hown (hW hw 132 rfl) (hW hw 133 rfl) (hW hw 131 rfl) (hW hw 134 rfl) dE_ (rm20_16 l Z a0 hw [] b5 j1 j4 (0 : Int64) (0 : Int64) h5 n0 Z0 g_b5 E_b5 F_price_b5 F_size_b5) e8 2 dE_ dE_ dE_ dE_ rfl (by rw [hml]; rfl) b5 [(.long j1), (.long j4)] [(.ref b5), (.ref o1)] rfl (lenOf pd_2 rfl) rfl (by show 2 * 0 + _ ≤ _; exact Nat.le_of_eq rfl) (hb hby d18_32)) fun T11 L11 v11 X11 hQ11 => ?_
  obtain ⟨rfl, N11, K11, E_b5', F_price_b5', F_size_b5'⟩ := hQ11
  replace N0 := Fr.app N0 N11
  replace E_o0 := E_o0.keep K11
  replace F_prices_o0 := F_prices_o0.keep K11 (ninS ne_o0_b5 nin0)
  replace F_sizes_o0 := F_sizes_o0.keep K11 (ninS ne_o0_b5 nin0)
  replace F_left_o0 := F_left_o0.keep K11 (ninS ne_o0_b5 nin0)
  replace F_right_o0 := F_right_o0.keep K11 (ninS ne_o0_b5 nin0)
  replace E_o1 := E_o1.keep K11
  replace F_modCount_o1 := F_modCount_o1.keep K11 (ninS ne_o1_b5 nin0)
  replace F_elementData_o1 := F_elementData_o1.keep K11 (ninS ne_o1_b5 nin0)
  replace F_size_o1 := F_size_o1.keep K11 (ninS ne_o1_b5 nin0)
  replace V_o3 := V_o3.keep K11 (ninS ne_o3_b5 nin0)
  replace V_o4 := V_o4.keep K11 (ninS ne_o4_b5 nin0)
  replace V_o5 := V_o5.keep K11 (ninS ne_o5_b5 nin0)
  replace V_o6 := V_o6.keep K11 (ninS ne_o6_b5 nin0)
  replace V_o8 := V_o8.keep K11 (ninS ne_o8_b5 nin0)
  replace E_b5 := E_b5.keep K11
  replace K0 := K0.trans K11 (allS (Or.inr sz_b5) all0)
  replace Z0 := Nat.le_trans Z0 K11.1
  replace E_b5 := E_b5'
  have F_price_b5 := F_price_b5'
  have F_size_b5 := F_size_b5'
  show own_Go p e below _ (T11.setTop (mkF m 35 #[rv o0, iv (1 : Int32), rv o1] [(.ref b5), (.ref o1)]))
  refine own_cc (own_callF X11 hx hZ (y := y20_) (z := y19_) hown (hW hw 145 rfl) (hW hw 146 rfl) (hW hw 147 rfl) (hW hw 148 rfl) (hW hw 149 rfl) (hW hw 150 rfl) (hW hw 151 rfl) (hW hw 123 rfl) (hW hw 90 rfl) (hW hw 152 rfl) dE_ (rm22_37 l Z a0 hw [] o1 b5 o8 i6 k5 T11.heap n0 Z0 g_o1 E_o1 F_modCount_o1 F_elementData_o1 F_size_o1 E_b5 g_o8 V_o8 Ov_k5) (rfl : T11.heap = _) 0 dE_ dE_ dE_ dE_ rfl (by rw [hml]; rfl) o1 E_o1 [(.ref b5)] [] rfl (lenOf pd_12 rfl) rfl (by show 2 * 0 + _ ≤ _; exact Nat.le_of_eq rfl) (hb hby d18_35)) fun T13 L13 v13 X13 hQ13 => ?_
  obtain ⟨rfl, N13, K13, E_o1', F_modCount_o1', F_elementData_o1', F_size_o1', V_o8'⟩ := hQ13
  replace N0 := Fr.app N0 N13
  have nx1 : o0 ≠ o1 := (ne_exa E_o0 E_o1 dE_)
  have nx2 : o0 ≠ o8 := (own_nev E_o0 (hW hw 2 rfl) V_o8)
  have nx3 : o3 ≠ o1 := (Ne.symm (own_nev E_o1 (hW hw 89 rfl) V_o3))
  have nx4 : o4 ≠ o1 := (Ne.symm (own_nev E_o1 (hW hw 89 rfl) V_o4))
  have nx5 : o5 ≠ o1 := (Ne.symm (own_nev E_o1 (hW hw 89 rfl) V_o5))
  have nx6 : o6 ≠ o1 := (Ne.symm (own_nev E_o1 (hW hw 89 rfl) V_o6))
  replace E_o0 := E_o0.keep K13
  replace F_prices_o0 := F_prices_o0.keep K13 (ninS nx1 (ninS nx2 nin0))
  replace F_sizes_o0 := F_sizes_o0.keep K13 (ninS nx1 (ninS nx2 nin0))
  replace F_left_o0 := F_left_o0.keep K13 (ninS nx1 (ninS nx2 nin0))
  replace F_right_o0 := F_right_o0.keep K13 (ninS nx1 (ninS nx2 nin0))
  replace E_o1 := E_o1.keep K13
  replace V_o3 := V_o3.keep K13 (ninS nx3 (ninS ne_o3_o8 nin0))
  replace V_o4 := V_o4.keep K13 (ninS nx4 (ninS ne_o4_o8 nin0))
  replace V_o5 := V_o5.keep K13 (ninS nx5 (ninS ne_o5_o8 nin0))
  replace V_o6 := V_o6.keep K13 (ninS nx6 (ninS ne_o6_o8 nin0))
  replace E_b5 := E_b5.keep K13
  replace F_price_b5 := F_price_b5.keep K13 (ninS (Ne.symm ne_o1_b5) (ninS (Ne.symm ne_o8_b5) nin0))
  replace F_size_b5 := F_size_b5.keep K13 (ninS (Ne.symm ne_o1_b5) (ninS (Ne.symm ne_o8_b5) nin0))
  replace K0 := K0.trans K13 (allS (Or.inl (List.mem_of_getElem? (i := 1) rfl)) (allS (Or.inl (List.mem_of_getElem? (i := 0) rfl)) all0))
  replace Z0 := Nat.le_trans Z0 K13.1
  replace E_o1 := E_o1'
  have F_modCount_o1 := F_modCount_o1'
  have F_elementData_o1 := F_elementData_o1'
  have F_size_o1 := F_size_o1'
  have V_o8 := V_o8'
  show own_Go p e below _ (T13.setTop (mkF m 40 #[rv o0, iv (1 : Int32), rv o1] [(.int (1 : Int32))]))
  refine own_by (B := T13.setTop (mkF m 43 #[rv o0, iv (1 : Int32), rv o1] [(.ref o0), (.ref o0)])) (fun t k => ?_) ?_
  · refine XS.pop X13.here hx rfl (hb hby d18_40) rfl rfl ?_
    show Steps p.tables e below (T13.setTop (mkF m 41 #[rv o0, iv (1 : Int32), rv o1] [])) _
    refine XS.aloadN X13.here hx rfl (hb hby d18_41) rfl rfl ?_
    refine XS.aloadN X13.here hx rfl (hb hby d18_42) rfl rfl ?_
    exact k
  refine own_c1 (getF X13 hx hZ hown (host := "") (Or.inl (hW hw 18 rfl)) Via.refl rfl F_right_o0 rfl rfl (hb hby d18_43)) fun T14 X14 e14 => ?_
  show own_Go p e below _ (T14.setTop (mkF m 46 #[rv o0, iv (1 : Int32), rv o1] [(.ref o6), (.ref o0)]))
  refine own_by (B := T14.setTop (mkF m 49 #[rv o0, iv (1 : Int32), rv o1] [(.ref o1), (.int (2 : Int32)), (.ref o0)])) (fun t k => ?_) ?_
  · refine XS.iloadN X14.here hx rfl (hb hby d18_46) rfl ?_
    obtain ⟨cl15, Ar15, q15, S15, N15, H15, G15⟩ := id V_o6
    have hin15 : ¬ ((1 : Int32) < 0 ∨ cl15.slots.size ≤ ((1 : Int32)).toNatClampNeg) := inb_of S15 ⟨by decide, by decide⟩
    have hat15 : cl15.slots[((1 : Int32)).toNatClampNeg]? = some (.int (2 : Int32)) := H15.at hin15 rfl
    refine X14.iaload hx (j := (1 : Int32)) (v := (.int (2 : Int32))) (by rw [show T14.heap = T13.heap from e14]; exact Ar15.1) (State.isArrayOf_alike hZ.alike Ar15.2.1) Ar15.2.2 hin15 hat15 (g := (mkF m 47 #[rv o0, iv (1 : Int32), rv o1] [(.int (1 : Int32)), (.ref o6), (.ref o0)])) rfl rfl (hb hby d18_47) _ ?_
    show Steps p.tables e below (T14.setTop (mkF m 48 #[rv o0, iv (1 : Int32), rv o1] [(.int (2 : Int32)), (.ref o0)])) _
    refine XS.aloadN X14.here hx rfl (hb hby d18_48) rfl rfl ?_
    exact k
  refine own_cc (own_callP X14 hx hZ (y := y10_) hown (hW hw 112 rfl) (hW hw 113 rfl) (hW hw 3 rfl) (hW hw 115 rfl) (hW hw 114 rfl) (hW hw 2 rfl) dE_ (rm18_54 l Z a0 hw [] o0 o1 o3 o4 o5 o6 o8 b5 (i6 + (1 : Int32)) k0 j0 j1 j2 k1 j3 j4 j5 k2 i7 i8 i9 k3 i10 (2 : Int32) i11 k5 T13.heap n0 Z0 E_o0 F_prices_o0 F_sizes_o0 F_left_o0 F_right_o0 g_o1 E_o1 F_modCount_o1 F_elementData_o1 F_size_o1 V_o3 V_o4 V_o5 V_o6 g_o8 V_o8 Ov_k5 hp1 ne_o3_o8 ne_o4_o8 ne_o5_o8 ne_o6_o8 hp2) e14 0 dE_ dE_ dE_ dE_ rfl (by rw [hml]; rfl) o0 E_o0 [(.int (2 : Int32)), (.ref o1)] [] rfl (lenOf pd_10 rfl) rfl (by show 2 * 0 + _ ≤ _; exact Nat.le_of_eq rfl) (hb hby d18_49)) fun T17 L17 v17 X17 hQ17 => ?_
  obtain ⟨b5_17, rfl, N17, K17, V_o8', E_o1', F_modCount_o1', F_elementData_o1', F_size_o1', E_b5_17', F_price_b5_17', F_size_b5_17', sz_b5_17'⟩ := hQ17
  replace N0 := Fr.app N0 N17
  have g_b5_17 : n0 ≤ b5_17 := Nat.le_trans Z0 sz_b5_17'
  have sz_b5_17 : h0.size ≤ b5_17 := Nat.le_trans K0.1 sz_b5_17'
  have ne_o0_b5_17 : o0 ≠ b5_17 := Nat.ne_of_lt (Nat.lt_of_lt_of_le E_o0.lt sz_b5_17')
  have ne_o1_b5_17 : o1 ≠ b5_17 := Nat.ne_of_lt (Nat.lt_of_lt_of_le E_o1.lt sz_b5_17')
  have ne_o3_b5_17 : o3 ≠ b5_17 := Nat.ne_of_lt (Nat.lt_of_lt_of_le V_o3.lt sz_b5_17')
  have ne_o4_b5_17 : o4 ≠ b5_17 := Nat.ne_of_lt (Nat.lt_of_lt_of_le V_o4.lt sz_b5_17')
  have ne_o5_b5_17 : o5 ≠ b5_17 := Nat.ne_of_lt (Nat.lt_of_lt_of_le V_o5.lt sz_b5_17')
  have ne_o6_b5_17 : o6 ≠ b5_17 := Nat.ne_of_lt (Nat.lt_of_lt_of_le V_o6.lt sz_b5_17')
  have ne_b5_b5_17 : b5 ≠ b5_17 := Nat.ne_of_lt (Nat.lt_of_lt_of_le E_b5.lt sz_b5_17')
  have ne_o8_b5_17 : o8 ≠ b5_17 := Nat.ne_of_lt (Nat.lt_of_lt_of_le V_o8.lt sz_b5_17')
  replace E_o0 := E_o0.keep K17
  replace F_prices_o0 := F_prices_o0.keep K17 (ninS nx2 (ninS nx1 nin0))
  replace F_sizes_o0 := F_sizes_o0.keep K17 (ninS nx2 (ninS nx1 nin0))
  replace F_left_o0 := F_left_o0.keep K17 (ninS nx2 (ninS nx1 nin0))
  replace F_right_o0 := F_right_o0.keep K17 (ninS nx2 (ninS nx1 nin0))
  replace E_o1 := E_o1.keep K17
  replace V_o3 := V_o3.keep K17 (ninS ne_o3_o8 (ninS nx3 nin0))
  replace V_o4 := V_o4.keep K17 (ninS ne_o4_o8 (ninS nx4 nin0))
  replace V_o5 := V_o5.keep K17 (ninS ne_o5_o8 (ninS nx5 nin0))
  replace V_o6 := V_o6.keep K17 (ninS ne_o6_o8 (ninS nx6 nin0))
  replace E_b5 := E_b5.keep K17
  replace F_price_b5 := F_price_b5.keep K17 (ninS (Ne.symm ne_o8_b5) (ninS (Ne.symm ne_o1_b5) nin0))
  replace F_size_b5 := F_size_b5.keep K17 (ninS (Ne.symm ne_o8_b5) (ninS (Ne.symm ne_o1_b5) nin0))
  replace K0 := K0.trans K17 (allS (Or.inl (List.mem_of_getElem? (i := 0) rfl)) (allS (Or.inl (List.mem_of_getElem? (i := 1) rfl)) all0))
  replace Z0 := Nat.le_trans Z0 K17.1
  have V_o8 := V_o8'
  replace E_o1 := E_o1'
  have F_modCount_o1 := F_modCount_o1'
  have F_elementData_o1 := F_elementData_o1'
  have F_size_o1 := F_size_o1'
  have E_b5_17 := E_b5_17'
  have F_price_b5_17 := F_price_b5_17'
  have F_size_b5_17 := F_size_b5_17'
  show own_Go p e below _ (T17.setTop (mkF m 52 #[rv o0, iv (1 : Int32), rv o1] []))
  exact own_retV X17 Bd.notSynchronized hx Bd.returns (hb hby d18_52) ⟨b5, b5_17, rfl, N0, K0, V_o8, E_o1, F_modCount_o1, F_elementData_o1, F_size_o1, E_b5, F_price_b5, F_size_b5, E_b5_17, F_price_b5_17, F_size_b5_17, sz_b5, sz_b5_17, ne_b5_b5_17⟩ dE_ dE_

def Q14_56 (Z : State) (o0 o2 : Addr) (o3 o4 o5 : Addr) (k0 : ClassId) (j0 j1 j2 : Int64) (k1 : ClassId) (j3 j4 j5 : Int64) (k2 : ClassId) (i4 i5 i6 : Int32) (k3 : ClassId) (i7 i8 : Int32) (h0 : Heap) (n0 : Nat) (v : Option Value) (h : Heap) (L : List Loc) : Prop := ∃ b1 : Addr, ∃ b3_4 : Addr, ∃ b5_7 : Addr, ∃ b5_17_7 : Addr, ∃ k3_4 : ClassId, v = some (.ref b1) ∧ Fr n0 L ∧ Keep h0 h [] ∧ Exa Z h b1 c1_ ∧ Fld Z h b1 c6_ "modCount" "I" (.int (2 : Int32)) ∧ Fld Z h b1 c1_ "elementData" c5_ (.ref b3_4) ∧ Fld Z h b1 c1_ "size" "I" (.int (2 : Int32)) ∧ Arv Z h b3_4 k3_4 (.object c3_) (2 : Int32) [(.ref b5_7), (.ref b5_17_7)] .null ∧ Ovr Z k3_4 c3_ ∧ Exa Z h b5_7 c2_ ∧ Fld Z h b5_7 c2_ "price" "J" (.long j1) ∧ Fld Z h b5_7 c2_ "size" "J" (.long j4) ∧ Exa Z h b5_17_7 c2_ ∧ Fld Z h b5_17_7 c2_ "price" "J" (.long j2) ∧ Fld Z h b5_17_7 c2_ "size" "J" (.long j5) ∧ h0.size ≤ b1 ∧ h0.size ≤ b3_4 ∧ h0.size ≤ b5_7 ∧ h0.size ≤ b5_17_7 ∧ b1 ≠ b3_4 ∧ b1 ≠ b5_7 ∧ b1 ≠ b5_17_7 ∧ b3_4 ≠ b5_7 ∧ b3_4 ≠ b5_17_7 ∧ b5_7 ≠ b5_17_7
set_option maxRecDepth 65536 in
set_option maxHeartbeats 40000000 in
theorem rm14_56 (l : Launch) (Z : State) (a0 : Array Value) (hw : oW_ a0 Z) (ws : List Jvm.Cond) (o0 o2 : Addr) (o3 o4 o5 : Addr) (k0 : ClassId) (j0 j1 j2 : Int64) (k1 : ClassId) (j3 j4 j5 : Int64) (k2 : ClassId) (i4 i5 i6 : Int32) (k3 : ClassId) (i7 i8 : Int32) (h0 : Heap) (n0 : Nat) (Z0 : n0 ≤ h0.size) (E_o0 : Exa Z h0 o0 c0_) (F_prices_o0 : Fld Z h0 o0 c0_ "prices" "[J" (.ref o2)) (F_sizes_o0 : Fld Z h0 o0 c0_ "sizes" "[J" (.ref o3)) (F_left_o0 : Fld Z h0 o0 c0_ "left" "[I" (.ref o4)) (F_right_o0 : Fld Z h0 o0 c0_ "right" "[I" (.ref o5)) (F_root_o0 : Fld Z h0 o0 c0_ "root" "I" (.int (1 : Int32))) (F_count_o0 : Fld Z h0 o0 c0_ "count" "I" (.int (2 : Int32))) (V_o2 : Arv Z h0 o2 k0 .long (8 : Int32) [(.long j0), (.long j1), (.long j2)] oY) (V_o3 : Arv Z h0 o3 k1 .long (8 : Int32) [(.long j3), (.long j4), (.long j5)] oY) (V_o4 : Arv Z h0 o4 k2 .int (8 : Int32) [(.int i4), (.int i5), (.int i6)] oZ) (V_o5 : Arv Z h0 o5 k3 .int (8 : Int32) [(.int i7), (.int (2 : Int32)), (.int i8)] oZ) (hp0 : i5 = (0 : Int32)) (hp1 : i6 = (0 : Int32)) (hp2 : i8 = (0 : Int32)) :
    MetFree l y11_ (head1 (Jvm.Cond.code y11_ prog_3_method_6_code 2 (some (.object c7_)) :: ws) (rM_ 5 4 9 70)) (fun a U => a = #[(.ref o0)] ∧ Z.Warmed39 U.vm ∧ U.heap = h0) (fun _ _ _ _ _ => True) (fun _ U o U' => ∃ v L, o = .returned v ∧ Q14_56 Z o0 o2 o3 o4 o5 k0 j0 j1 j2 k1 j3 j4 j5 k2 i4 i5 i6 k3 i7 i8 h0 n0 v U'.heap L ∧ FrameEnd U o U' L (rM_ 5 4 9 70).cells (rM_ 5 4 9 70).slots) := by
  refine MetFree.of_bodySF (plainFor_of_name pn_14) hisR ?_
  intro p e s m args below meth c s₁ Bd hml0 hP hK
  obtain ⟨rfl, hZ, hh⟩ := hP
  have hx := Bd.exec
  have hby := Bd.bytes
  have hml : c.maxLocals = 2 := hml0
  have hown : s.vm.findClass c0_ = some m.cls := findClass_of_methodNamed Bd.named
  have hnm := (name_of_methodNamed Bd.named Bd.method).1
  have X0 : Stand p l e (rM_ 5 4 9 70) s m #[(.ref o0)] below meth c s₁ [] 0 0 := Stand.of_body Bd
  have e0 : s₁.heap = h0 := by rw [← hh, Bd.state]; rfl
  have N0 := Fr.nil n0
  have K0 : Keep h0 h0 [] := Keep.refl h0 _
  change own_Go p e below (own_Post s (Q14_56 Z o0 o2 o3 o4 o5 k0 j0 j1 j2 k1 j3 j4 j5 k2 i4 i5 i6 k3 i7 i8 h0 n0) (rM_ 5 4 9 70).cells (rM_ 5 4 9 70).slots) (s₁.setTop (entryFrame m #[(.ref o0)] 2))
  refine own_by (fun t k => castTop (ef_14 m o0) k) ?_
  show own_Go p e below _ (s₁.setTop (mkF m 0 #[rv o0, oU] []))
  obtain ⟨T1, h1, X1, e1, E1, A1, D1, -, st1⟩ := newO X0 hx hZ hown (hW hw 88 rfl) (hW hw 89 rfl) (hW hw 90 rfl) e0 (g := (mkF m 0 #[rv o0, oU] [])) rfl (hb hby d14_0) dE_ dE_
  obtain ⟨b1, g1⟩ : ∃ z, z = h0.size := ⟨_, rfl⟩
  rw [← g1] at A1 D1 st1
  have g_b1 : n0 ≤ b1 := Nat.le_trans Z0 (Nat.le_of_eq g1.symm)
  have sz_b1 : h0.size ≤ b1 := Nat.le_trans K0.1 (Nat.le_of_eq g1.symm)
  have ne_o0_b1 : o0 ≠ b1 := Nat.ne_of_lt (Nat.lt_of_lt_of_le E_o0.lt (Nat.le_of_eq g1.symm))
  have ne_o2_b1 : o2 ≠ b1 := Nat.ne_of_lt (Nat.lt_of_lt_of_le V_o2.lt (Nat.le_of_eq g1.symm))
  have ne_o3_b1 : o3 ≠ b1 := Nat.ne_of_lt (Nat.lt_of_lt_of_le V_o3.lt (Nat.le_of_eq g1.symm))
  have ne_o4_b1 : o4 ≠ b1 := Nat.ne_of_lt (Nat.lt_of_lt_of_le V_o4.lt (Nat.le_of_eq g1.symm))
  have ne_o5_b1 : o5 ≠ b1 := Nat.ne_of_lt (Nat.lt_of_lt_of_le V_o5.lt (Nat.le_of_eq g1.symm))
  replace E_o0 := E_o0.ext E1
  replace F_prices_o0 := F_prices_o0.ext E1
  replace F_sizes_o0 := F_sizes_o0.ext E1
  replace F_left_o0 := F_left_o0.ext E1
  replace F_right_o0 := F_right_o0.ext E1
  replace F_root_o0 := F_root_o0.ext E1
  replace F_count_o0 := F_count_o0.ext E1
  replace V_o2 := V_o2.ext E1
  replace V_o3 := V_o3.ext E1
  replace V_o4 := V_o4.ext E1
  replace V_o5 := V_o5.ext E1
  replace K0 := K0.ext E1
  replace Z0 := Nat.le_trans Z0 E1.1
  have E_b1 := A1
  have F_modCount_b1 : Fld Z h1 b1 c6_ "modCount" "I" oZ := D1 (Or.inl (hW hw 108 rfl)) (ty := .int) dE_
  have F_elementData_b1 : Fld Z h1 b1 c1_ "elementData" c5_ .null := D1 (Or.inl (hW hw 111 rfl)) (ty := (.array (.object c3_))) dE_
  have F_size_b1 : Fld Z h1 b1 c1_ "size" "I" oZ := D1 (Or.inl (hW hw 126 rfl)) (ty := .int) dE_
  refine own_by st1 ?_
  show own_Go p e below _ (T1.setTop (mkF m 3 #[rv o0, oU] [(.ref b1)]))
  refine own_by (B := T1.setTop (mkF m 5 #[rv o0, oU] [(.ref o0), (.ref b1), (.ref b1)])) (fun t k => ?_) ?_
  · refine XS.dup X1.here hx rfl (hb hby d14_3) rfl rfl ?_
    refine XS.aloadN X1.here hx rfl (hb hby d14_4) rfl rfl ?_
    exact k
  refine own_c1 (getF X1 hx hZ hown (host := "") (Or.inl (hW hw 46 rfl)) Via.refl e1 F_count_o0 rfl rfl (hb hby d14_5)) fun T2 X2 e2 => ?_
  show own_Go p e below _ (T2.setTop (mkF m 8 #[rv o0, oU] [(.int (2 : Int32)), (.ref b1), (.ref b1)]))
  refine own_cc (own_callI X2 hx hZ (y := y9_) rfl hown (hW hw 91 rfl) (hW hw 92 rfl) (hW hw 90 rfl) (hW hw 93 rfl) dE_ (rm15_35 l Z a0 hw [] b1 (0 : Int32) (0 : Int32) h1 n0 Z0 g_b1 E_b1 F_modCount_b1 F_elementData_b1 F_size_b1) e2 1 dE_ dE_ dE_ dE_ rfl (by rw [hml]; rfl) b1 [(.int (2 : Int32))] [(.ref b1)] rfl (lenOf pd_6 rfl) rfl (by show 2 * 0 + _ ≤ _; exact Nat.le_of_eq rfl) (hb hby d14_8)) fun T4 L4 v4 X4 hQ4 => ?_
  obtain ⟨b3_4, k3_4, rfl, N4, K4, E_b1', F_modCount_b1', F_elementData_b1', F_size_b1', V_b3_4', Ov_k3_4', sz_b3_4'⟩ := hQ4
  replace N0 := Fr.app N0 N4
  have g_b3_4 : n0 ≤ b3_4 := Nat.le_trans Z0 sz_b3_4'
  have sz_b3_4 : h0.size ≤ b3_4 := Nat.le_trans K0.1 sz_b3_4'
  have ne_o0_b3_4 : o0 ≠ b3_4 := Nat.ne_of_lt (Nat.lt_of_lt_of_le E_o0.lt sz_b3_4')
  have ne_o2_b3_4 : o2 ≠ b3_4 := Nat.ne_of_lt (Nat.lt_of_lt_of_le V_o2.lt sz_b3_4')
  have ne_o3_b3_4 : o3 ≠ b3_4 := Nat.ne_of_lt (Nat.lt_of_lt_of_le V_o3.lt sz_b3_4')
  have ne_o4_b3_4 : o4 ≠ b3_4 := Nat.ne_of_lt (Nat.lt_of_lt_of_le V_o4.lt sz_b3_4')
  have ne_o5_b3_4 : o5 ≠ b3_4 := Nat.ne_of_lt (Nat.lt_of_lt_of_le V_o5.lt sz_b3_4')
  have ne_b1_b3_4 : b1 ≠ b3_4 := Nat.ne_of_lt (Nat.lt_of_lt_of_le E_b1.lt sz_b3_4')
  replace E_o0 := E_o0.keep K4
  replace F_prices_o0 := F_prices_o0.keep K4 (ninS ne_o0_b1 nin0)
  replace F_sizes_o0 := F_sizes_o0.keep K4 (ninS ne_o0_b1 nin0)
  replace F_left_o0 := F_left_o0.keep K4 (ninS ne_o0_b1 nin0)
  replace F_right_o0 := F_right_o0.keep K4 (ninS ne_o0_b1 nin0)
  replace F_root_o0 := F_root_o0.keep K4 (ninS ne_o0_b1 nin0)
  replace F_count_o0 := F_count_o0.keep K4 (ninS ne_o0_b1 nin0)
  replace V_o2 := V_o2.keep K4 (ninS ne_o2_b1 nin0)
  replace V_o3 := V_o3.keep K4 (ninS ne_o3_b1 nin0)
  replace V_o4 := V_o4.keep K4 (ninS ne_o4_b1 nin0)
  replace V_o5 := V_o5.keep K4 (ninS ne_o5_b1 nin0)
  replace E_b1 := E_b1.keep K4
  replace K0 := K0.trans K4 (allS (Or.inr sz_b1) all0)
  replace Z0 := Nat.le_trans Z0 K4.1
  replace E_b1 := E_b1'
  have F_modCount_b1 := F_modCount_b1'
  have F_elementData_b1 := F_elementData_b1'
  have F_size_b1 := F_size_b1'
  have V_b3_4 := V_b3_4'
  have Ov_k3_4 := Ov_k3_4'
  show own_Go p e below _ (T4.setTop (mkF m 11 #[rv o0, oU] [(.ref b1)]))
  refine own_by (B := T4.setTop (mkF m 14 #[rv o0, rv b1] [(.ref o0), (.ref o0)])) (fun t k => ?_) ?_
  · refine XS.astoreN X4.here hx rfl (hb hby d14_11) rfl rfl (l' := #[rv o0, rv b1]) rfl ?_
    show Steps p.tables e below (T4.setTop (mkF m 12 #[rv o0, rv b1] [])) _
    refine XS.aloadN X4.here hx rfl (hb hby d14_12) rfl rfl ?_
    refine XS.aloadN X4.here hx rfl (hb hby d14_13) rfl rfl ?_
    exact k
  refine own_c1 (getF X4 hx hZ hown (host := "") (Or.inl (hW hw 23 rfl)) Via.refl rfl F_root_o0 rfl rfl (hb hby d14_14)) fun T5 X5 e5 => ?_
  show own_Go p e below _ (T5.setTop (mkF m 17 #[rv o0, rv b1] [(.int (1 : Int32)), (.ref o0)]))
  refine own_by (B := T5.setTop (mkF m 18 #[rv o0, rv b1] [(.ref b1), (.int (1 : Int32)), (.ref o0)])) (fun t k => ?_) ?_
  · refine XS.aloadN X5.here hx rfl (hb hby d14_17) rfl rfl ?_
    exact k
  refine own_cc (own_callP X5 hx hZ (y := y10_) hown (hW hw 112 rfl) (hW hw 113 rfl) (hW hw 3 rfl) (hW hw 115 rfl) (hW hw 114 rfl) (hW hw 2 rfl) dE_ (rm18_55 l Z a0 hw [] o0 b1 o2 o3 o4 o5 b3_4 (0 : Int32) k0 j0 j1 j2 k1 j3 j4 j5 k2 i4 i5 i6 k3 i7 i8 k3_4 T4.heap n0 Z0 E_o0 F_prices_o0 F_sizes_o0 F_left_o0 F_right_o0 g_b1 E_b1 F_modCount_b1 F_elementData_b1 F_size_b1 V_o2 V_o3 V_o4 V_o5 g_b3_4 V_b3_4 Ov_k3_4 hp0 ne_o2_b3_4 ne_o3_b3_4 ne_o4_b3_4 ne_o5_b3_4 hp1 hp2) e5 0 dE_ dE_ dE_ dE_ rfl (by rw [hml]; rfl) o0 E_o0 [(.int (1 : Int32)), (.ref b1)] [] rfl (lenOf pd_10 rfl) rfl (by show 2 * 0 + _ ≤ _; exact Nat.le_of_eq rfl) (hb hby d14_18)) fun T7 L7 v7 X7 hQ7 => ?_
  obtain ⟨b5_7, b5_17_7, rfl, N7, K7, V_b3_4', E_b1', F_modCount_b1', F_elementData_b1', F_size_b1', E_b5_7', F_price_b5_7', F_size_b5_7', E_b5_17_7', F_price_b5_17_7', F_size_b5_17_7', sz_b5_7', sz_b5_17_7', ne_b5_7_b5_17_7'⟩ := hQ7
  replace N0 := Fr.app N0 N7
  have g_b5_7 : n0 ≤ b5_7 := Nat.le_trans Z0 sz_b5_7'
  have sz_b5_7 : h0.size ≤ b5_7 := Nat.le_trans K0.1 sz_b5_7'
  have ne_o0_b5_7 : o0 ≠ b5_7 := Nat.ne_of_lt (Nat.lt_of_lt_of_le E_o0.lt sz_b5_7')
  have ne_o2_b5_7 : o2 ≠ b5_7 := Nat.ne_of_lt (Nat.lt_of_lt_of_le V_o2.lt sz_b5_7')
  have ne_o3_b5_7 : o3 ≠ b5_7 := Nat.ne_of_lt (Nat.lt_of_lt_of_le V_o3.lt sz_b5_7')
  have ne_o4_b5_7 : o4 ≠ b5_7 := Nat.ne_of_lt (Nat.lt_of_lt_of_le V_o4.lt sz_b5_7')
  have ne_o5_b5_7 : o5 ≠ b5_7 := Nat.ne_of_lt (Nat.lt_of_lt_of_le V_o5.lt sz_b5_7')
  have ne_b1_b5_7 : b1 ≠ b5_7 := Nat.ne_of_lt (Nat.lt_of_lt_of_le E_b1.lt sz_b5_7')
  have ne_b3_4_b5_7 : b3_4 ≠ b5_7 := Nat.ne_of_lt (Nat.lt_of_lt_of_le V_b3_4.lt sz_b5_7')
  have g_b5_17_7 : n0 ≤ b5_17_7 := Nat.le_trans Z0 sz_b5_17_7'
  have sz_b5_17_7 : h0.size ≤ b5_17_7 := Nat.le_trans K0.1 sz_b5_17_7'
  have ne_o0_b5_17_7 : o0 ≠ b5_17_7 := Nat.ne_of_lt (Nat.lt_of_lt_of_le E_o0.lt sz_b5_17_7')
  have ne_o2_b5_17_7 : o2 ≠ b5_17_7 := Nat.ne_of_lt (Nat.lt_of_lt_of_le V_o2.lt sz_b5_17_7')
  have ne_o3_b5_17_7 : o3 ≠ b5_17_7 := Nat.ne_of_lt (Nat.lt_of_lt_of_le V_o3.lt sz_b5_17_7')
  have ne_o4_b5_17_7 : o4 ≠ b5_17_7 := Nat.ne_of_lt (Nat.lt_of_lt_of_le V_o4.lt sz_b5_17_7')
  have ne_o5_b5_17_7 : o5 ≠ b5_17_7 := Nat.ne_of_lt (Nat.lt_of_lt_of_le V_o5.lt sz_b5_17_7')
  have ne_b1_b5_17_7 : b1 ≠ b5_17_7 := Nat.ne_of_lt (Nat.lt_of_lt_of_le E_b1.lt sz_b5_17_7')
  have ne_b3_4_b5_17_7 : b3_4 ≠ b5_17_7 := Nat.ne_of_lt (Nat.lt_of_lt_of_le V_b3_4.lt sz_b5_17_7')
  replace E_o0 := E_o0.keep K7
  replace F_prices_o0 := F_prices_o0.keep K7 (ninS ne_o0_b3_4 (ninS ne_o0_b1 nin0))
  replace F_sizes_o0 := F_sizes_o0.keep K7 (ninS ne_o0_b3_4 (ninS ne_o0_b1 nin0))
  replace F_left_o0 := F_left_o0.keep K7 (ninS ne_o0_b3_4 (ninS ne_o0_b1 nin0))
  replace F_right_o0 := F_right_o0.keep K7 (ninS ne_o0_b3_4 (ninS ne_o0_b1 nin0))
  replace F_root_o0 := F_root_o0.keep K7 (ninS ne_o0_b3_4 (ninS ne_o0_b1 nin0))
  replace F_count_o0 := F_count_o0.keep K7 (ninS ne_o0_b3_4 (ninS ne_o0_b1 nin0))
  replace V_o2 := V_o2.keep K7 (ninS ne_o2_b3_4 (ninS ne_o2_b1 nin0))
  replace V_o3 := V_o3.keep K7 (ninS ne_o3_b3_4 (ninS ne_o3_b1 nin0))
  replace V_o4 := V_o4.keep K7 (ninS ne_o4_b3_4 (ninS ne_o4_b1 nin0))
  replace V_o5 := V_o5.keep K7 (ninS ne_o5_b3_4 (ninS ne_o5_b1 nin0))
  replace E_b1 := E_b1.keep K7
  replace K0 := K0.trans K7 (allS (Or.inr sz_b3_4) (allS (Or.inr sz_b1) all0))
  replace Z0 := Nat.le_trans Z0 K7.1
  have V_b3_4 := V_b3_4'
  replace E_b1 := E_b1'
  have F_modCount_b1 : Fld Z T7.heap b1 c6_ "modCount" "I" (.int (2 : Int32)) := F_modCount_b1'
  have F_elementData_b1 := F_elementData_b1'
  have F_size_b1 := F_size_b1'
  have E_b5_7 := E_b5_7'
  have F_price_b5_7 := F_price_b5_7'
  have F_size_b5_7 := F_size_b5_7'
  have E_b5_17_7 := E_b5_17_7'
  have F_price_b5_17_7 := F_price_b5_17_7'
  have F_size_b5_17_7 := F_size_b5_17_7'
  have ne_b5_7_b5_17_7 := ne_b5_7_b5_17_7'
  show own_Go p e below _ (T7.setTop (mkF m 21 #[rv o0, rv b1] []))
  refine own_by (B := T7.setTop (mkF m 22 #[rv o0, rv b1] [(.ref b1)])) (fun t k => ?_) ?_
  · refine XS.aloadN X7.here hx rfl (hb hby d14_21) rfl rfl ?_
    exact k
  exact own_retR X7 Bd.notSynchronized hx Bd.returns rfl rfl rfl (hb hby d14_22) ⟨b1, b3_4, b5_7, b5_17_7, k3_4, rfl, N0, K0, E_b1, F_modCount_b1, F_elementData_b1, F_size_b1, V_b3_4, Ov_k3_4, E_b5_7, F_price_b5_7, F_size_b5_7, E_b5_17_7, F_price_b5_17_7, F_size_b5_17_7, sz_b1, sz_b3_4, sz_b5_7, sz_b5_17_7, ne_b1_b3_4, ne_b1_b5_7, ne_b1_b5_17_7, ne_b3_4_b5_7, ne_b3_4_b5_17_7, ne_b5_7_b5_17_7⟩ dE_ dE_

theorem pn_0 : plainName "com/example/tidebook/tidebook/book/PriceLevelsClearPinLaw" = true := by first | (simp [plainName, overriddenIn]; done) | decide +kernel
theorem pd_8 : parseMethodDescriptor "()J" = some ⟨[], some .long⟩ := by decide +kernel
theorem pd_9 : parseMethodDescriptor "()Ljava/util/List;" = some ⟨[], some (.object "java/util/List")⟩ := by decide +kernel
theorem pd_11 : parseMethodDescriptor "()I" = some ⟨[], some .int⟩ := by decide +kernel
theorem pd_14 : parseMethodDescriptor "(JJ)J" = some ⟨[.long, .long], some .long⟩ := by decide +kernel
set_option maxRecDepth 65536 in
set_option maxHeartbeats 40000000 in
theorem own_tail {p : Program} {l : Launch} {e : Env} {s : State} {m : MethodId} {args : Array Value} {below : List Frame} {meth : Method} {c : Code} {s₁ : State} {locs : List Loc} {Z : State} {a0 : Array Value} {h0 h1 : Heap} {n0 : Nat}  (p0 : Int32) (q1 q2 : Int64) (q3 q4 q5 : Int64) (hi : Int32) (aa bb : Int64) (o0 em : Addr) (aP aS : Addr) (aL aR aH : Addr) (kP kS : ClassId) (kL kR kH : ClassId) (xP1 xP2 : Int64) (xS1 xS2 : Int64) (xL1 xL2 : Int32) (xR1 xR2 : Int32) (xH1 xH2 : Int32) (hhi : hi = (0 : Int32) ∨ hi = (1 : Int32))
    (X0 : Stand p l e room_1 s m args below meth c s₁ locs 6 51) (hx : p.tables.exec = Jvm.exec) (hZ : Z.Warmed39 s.vm) (hw : oW_ a0 Z) (hby : c.code = code) (hml : c.maxLocals = 26) (hown : s.vm.findClass c20_ = some m.cls) (Bret : meth.sig.returnType = some .boolean) (Blk : meth.locks = false) (e0 : s₁.heap = h1) (N0 : Fr n0 locs) (Z0 : n0 ≤ h1.size) (E_o0 : Exa Z h1 o0 c0_) (F_prices_o0 : Fld Z h1 o0 c0_ "prices" "[J" (.ref aP)) (F_sizes_o0 : Fld Z h1 o0 c0_ "sizes" "[J" (.ref aS)) (F_left_o0 : Fld Z h1 o0 c0_ "left" "[I" (.ref aL)) (F_right_o0 : Fld Z h1 o0 c0_ "right" "[I" (.ref aR)) (F_heights_o0 : Fld Z h1 o0 c0_ "heights" "[B" (.ref aH)) (F_root_o0 : Fld Z h1 o0 c0_ "root" "I" oZ) (F_best_o0 : Fld Z h1 o0 c0_ "best" "I" oZ) (F_unused_o0 : Fld Z h1 o0 c0_ "unused" "I" (.int (1 : Int32))) (F_free_o0 : Fld Z h1 o0 c0_ "free" "I" oZ) (F_count_o0 : Fld Z h1 o0 c0_ "count" "I" oZ) (F_highestFirst_o0 : Fld Z h1 o0 c0_ "highestFirst" "Z" (.int (nar .boolean hi))) (V_aP : Arv Z h1 aP kP .long (8 : Int32) [oY, (.long xP1), (.long xP2)] oY) (V_aS : Arv Z h1 aS kS .long (8 : Int32) [oY, (.long xS1), (.long xS2)] oY) (V_aL : Arv Z h1 aL kL .int (8 : Int32) [oZ, (.int xL1), (.int xL2)] oZ) (V_aR : Arv Z h1 aR kR .int (8 : Int32) [oZ, (.int xR1), (.int xR2)] oZ) (V_aH : Arv Z h1 aH kH .byte (8 : Int32) [oZ, (.int xH1), (.int xH2)] oZ) (g_o0 : n0 ≤ o0) (g_aP : n0 ≤ aP) (g_aS : n0 ≤ aS) (g_aL : n0 ≤ aL) (g_aR : n0 ≤ aR) (g_aH : n0 ≤ aH) (ne_aP_aS : aP ≠ aS) (ne_aP_aL : aP ≠ aL) (ne_aP_aR : aP ≠ aR) (ne_aP_aH : aP ≠ aH) (ne_aS_aL : aS ≠ aL) (ne_aS_aR : aS ≠ aR) (ne_aS_aH : aS ≠ aH) (ne_aL_aR : aL ≠ aR) (ne_aL_aH : aL ≠ aH) (ne_aR_aH : aR ≠ aH) (haa : ¬ (aa = (0 : Int64))) (hbb : ¬ (bb = (0 : Int64))) (OZ : Old Z n0 h1) (S_EMPTY_ELEMENTDATA : Sta Z Z.heap c1_ c16_ c5_ (.ref em)) :
    own_Go p e below (own_Post s (fun v h L => v = some (.int (1 : Int32)) ∧ Fr n0 L) room_1.cells room_1.slots) (s₁.setTop (mkF m 94 (lA5_ p0 q1 q2 q3 q4 q5 hi aa bb o0) [])) := by
  show own_Go p e below _ (s₁.setTop (mkF m 94 (lA5_ p0 q1 q2 q3 q4 q5 hi aa bb o0) []))
  refine own_by (B := s₁.setTop (mkF m 96 (lA5_ p0 q1 q2 q3 q4 q5 hi aa bb o0) [(.ref o0)])) (fun t k => ?_) ?_
  · refine XS.aload X0.here hx rfl (hb hby at_94) rfl rfl ?_
    exact k
  refine own_cc (own_callV X0 hx hZ (y := y5_) (z := y5_) hown (hW hw 73 rfl) (hW hw 74 rfl) (notFace_of_selects (args := #[]) (mvT hZ (hW hw 76 rfl))) (hW hw 76 rfl) (hW hw 75 rfl) (hW hw 3 rfl) (hW hw 77 rfl) dE_ (rm12_1 l Z a0 hw [] o0 aP kP (0 : Int64) xP1 xP2 h1 n0 Z0 F_prices_o0 F_best_o0 V_aP) e0 0 dE_ dE_ dE_ dE_ rfl (by rw [hml]; rfl) o0 E_o0 [] [] rfl (lenOf pd_8 rfl) rfl (by show 2 * 0 + _ ≤ _; exact Nat.le_of_eq rfl) (hb hby at_96)) fun T2 L2 v2 X2 hQ2 => ?_
  obtain ⟨rfl, N2, e2⟩ := hQ2
  replace N0 := Fr.app N0 N2
  show own_Go p e below _ (T2.setTop (mkF m 99 (lA5_ p0 q1 q2 q3 q4 q5 hi aa bb o0) [oY]))
  refine own_by (B := T2.setTop (mkF m 106 (lA5_ p0 q1 q2 q3 q4 q5 hi aa bb o0) [(.ref o0)])) (fun t k => ?_) ?_
  · refine XS.lconst X2.here hx rfl (hb hby at_99) ?_
    refine XS.lcmp X2.here hx rfl (hb hby at_100) rfl ?_
    show Steps p.tables e below (T2.setTop (mkF m 101 (lA5_ p0 q1 q2 q3 q4 q5 hi aa bb o0) [(.int (lcmpW (0 : Int64) (0 : Int64)))])) _
    rw [show (lcmpW (0 : Int64) (0 : Int64)) = (0 : Int32) from by decide]
    show Steps p.tables e below (T2.setTop (mkF m 101 (lA5_ p0 q1 q2 q3 q4 q5 hi aa bb o0) [oZ])) _
    refine XS.ifNo X2.here hx rfl (hb hby at_101) rfl ((if0 _ _).trans (teq (by decide : (0 : Int32) = (0 : Int32))).2) ?_
    show Steps p.tables e below (T2.setTop (mkF m 104 (lA5_ p0 q1 q2 q3 q4 q5 hi aa bb o0) [])) _
    refine XS.aload X2.here hx rfl (hb hby at_104) rfl rfl ?_
    exact k
  refine own_cc (own_callV X2 hx hZ (y := y6_) (z := y6_) hown (hW hw 78 rfl) (hW hw 79 rfl) (notFace_of_selects (args := #[]) (mvT hZ (hW hw 81 rfl))) (hW hw 81 rfl) (hW hw 80 rfl) (hW hw 3 rfl) (hW hw 82 rfl) dE_ (rm13_2 l Z a0 hw [] o0 aS kS (0 : Int64) xS1 xS2 h1 n0 Z0 F_sizes_o0 F_best_o0 V_aS) e2 0 dE_ dE_ dE_ dE_ rfl (by rw [hml]; rfl) o0 E_o0 [] [] rfl (lenOf pd_8 rfl) rfl (by show 2 * 0 + _ ≤ _; exact Nat.le_of_eq rfl) (hb hby at_106)) fun T4 L4 v4 X4 hQ4 => ?_
  obtain ⟨rfl, N4, e4⟩ := hQ4
  replace N0 := Fr.app N0 N4
  show own_Go p e below _ (T4.setTop (mkF m 109 (lA5_ p0 q1 q2 q3 q4 q5 hi aa bb o0) [oY]))
  refine own_by (B := T4.setTop (mkF m 118 (lA5_ p0 q1 q2 q3 q4 q5 hi aa bb o0) [(.ref o0)])) (fun t k => ?_) ?_
  · refine XS.lconst X4.here hx rfl (hb hby at_109) ?_
    refine XS.lcmp X4.here hx rfl (hb hby at_110) rfl ?_
    show Steps p.tables e below (T4.setTop (mkF m 111 (lA5_ p0 q1 q2 q3 q4 q5 hi aa bb o0) [(.int (lcmpW (0 : Int64) (0 : Int64)))])) _
    rw [show (lcmpW (0 : Int64) (0 : Int64)) = (0 : Int32) from by decide]
    show Steps p.tables e below (T4.setTop (mkF m 111 (lA5_ p0 q1 q2 q3 q4 q5 hi aa bb o0) [oZ])) _
    refine XS.ifYes X4.here hx rfl (pc0 := 111) (pc' := 116) rfl (hb hby at_111) rfl ((if0 _ _).trans (teq (by decide : (0 : Int32) = (0 : Int32))).1) dE_ dE_ ?_
    show Steps p.tables e below (T4.setTop (mkF m 116 (lA5_ p0 q1 q2 q3 q4 q5 hi aa bb o0) [])) _
    refine XS.aload X4.here hx rfl (hb hby at_116) rfl rfl ?_
    exact k
  refine own_cc (own_callV X4 hx hZ (y := y11_) (z := y11_) hown (hW hw 83 rfl) (hW hw 84 rfl) (notFace_of_selects (args := #[]) (mvT hZ (hW hw 86 rfl))) (hW hw 86 rfl) (hW hw 85 rfl) (hW hw 3 rfl) (hW hw 87 rfl) dE_ (rm14_7 l Z a0 hw [] o0 em (0 : Int32) (0 : Int32) h1 n0 Z0 E_o0 F_root_o0 F_count_o0 S_EMPTY_ELEMENTDATA OZ (by decide : ¬ ((0 : Int32) < (0 : Int32))) (by decide : (0 : Int32) = (0 : Int32)) (by decide : (0 : Int32) = (0 : Int32))) e4 0 dE_ dE_ dE_ dE_ rfl (by rw [hml]; rfl) o0 E_o0 [] [] rfl (lenOf pd_9 rfl) rfl (by show 2 * 0 + _ ≤ _; exact Nat.le_of_eq rfl) (hb hby at_118)) fun T6 L6 v6 X6 hQ6 => ?_
  obtain ⟨b1_6, rfl, N6, K6, E_b1_6', F_modCount_b1_6', F_elementData_b1_6', F_size_b1_6', sz_b1_6'⟩ := hQ6
  replace N0 := Fr.app N0 N6
  have g_b1_6 : n0 ≤ b1_6 := Nat.le_trans Z0 sz_b1_6'
  have ne_o0_b1_6 : o0 ≠ b1_6 := Nat.ne_of_lt (Nat.lt_of_lt_of_le E_o0.lt sz_b1_6')
  have ne_aP_b1_6 : aP ≠ b1_6 := Nat.ne_of_lt (Nat.lt_of_lt_of_le V_aP.lt sz_b1_6')
  have ne_aS_b1_6 : aS ≠ b1_6 := Nat.ne_of_lt (Nat.lt_of_lt_of_le V_aS.lt sz_b1_6')
  have ne_aL_b1_6 : aL ≠ b1_6 := Nat.ne_of_lt (Nat.lt_of_lt_of_le V_aL.lt sz_b1_6')
  have ne_aR_b1_6 : aR ≠ b1_6 := Nat.ne_of_lt (Nat.lt_of_lt_of_le V_aR.lt sz_b1_6')
  have ne_aH_b1_6 : aH ≠ b1_6 := Nat.ne_of_lt (Nat.lt_of_lt_of_le V_aH.lt sz_b1_6')
  replace E_o0 := E_o0.keep K6
  replace F_prices_o0 := F_prices_o0.keep K6 nin0
  replace F_sizes_o0 := F_sizes_o0.keep K6 nin0
  replace F_left_o0 := F_left_o0.keep K6 nin0
  replace F_right_o0 := F_right_o0.keep K6 nin0
  replace F_heights_o0 := F_heights_o0.keep K6 nin0
  replace F_root_o0 := F_root_o0.keep K6 nin0
  replace F_best_o0 := F_best_o0.keep K6 nin0
  replace F_unused_o0 := F_unused_o0.keep K6 nin0
  replace F_free_o0 := F_free_o0.keep K6 nin0
  replace F_count_o0 := F_count_o0.keep K6 nin0
  replace F_highestFirst_o0 := F_highestFirst_o0.keep K6 nin0
  replace V_aP := V_aP.keep K6 nin0
  replace V_aS := V_aS.keep K6 nin0
  replace V_aL := V_aL.keep K6 nin0
  replace V_aR := V_aR.keep K6 nin0
  replace V_aH := V_aH.keep K6 nin0
  replace OZ := OZ.keep K6 all0
  replace Z0 := Nat.le_trans Z0 K6.1
  have E_b1_6 := E_b1_6'
  have F_modCount_b1_6 := F_modCount_b1_6'
  have F_elementData_b1_6 := F_elementData_b1_6'
  have F_size_b1_6 := F_size_b1_6'
  show own_Go p e below _ (T6.setTop (mkF m 121 (lA5_ p0 q1 q2 q3 q4 q5 hi aa bb o0) [(.ref b1_6)]))
  refine own_cc (own_callF X6 hx hZ (y := y29_) (z := y12_) hown (hW hw 116 rfl) (hW hw 117 rfl) (hW hw 118 rfl) (hW hw 119 rfl) (hW hw 120 rfl) (hW hw 121 rfl) (hW hw 122 rfl) (hW hw 123 rfl) (hW hw 90 rfl) (hW hw 124 rfl) dE_ (rm19_8 l Z a0 hw [] b1_6 (0 : Int32) T6.heap n0 Z0 F_size_b1_6) (rfl : T6.heap = _) 0 dE_ dE_ dE_ dE_ rfl (by rw [hml]; rfl) b1_6 E_b1_6 [] [] rfl (lenOf pd_11 rfl) rfl (by show 2 * 0 + _ ≤ _; exact Nat.le_of_eq rfl) (hb hby at_121)) fun T8 L8 v8 X8 hQ8 => ?_
  obtain ⟨rfl, N8, e8⟩ := hQ8
  replace N0 := Fr.app N0 N8
  show own_Go p e below _ (T8.setTop (mkF m 126 (lA5_ p0 q1 q2 q3 q4 q5 hi aa bb o0) [oZ]))
  refine own_by (B := T8.setTop (mkF m 137 (lA5_ p0 q1 q2 q3 q4 q5 hi aa bb o0) [(.long aa), (.long q3), (.ref o0)])) (fun t k => ?_) ?_
  · refine XS.ifYes X8.here hx rfl (pc0 := 126) (pc' := 131) rfl (hb hby at_126) rfl ((if0 _ _).trans (teq (by decide : (0 : Int32) = (0 : Int32))).1) dE_ dE_ ?_
    show Steps p.tables e below (T8.setTop (mkF m 131 (lA5_ p0 q1 q2 q3 q4 q5 hi aa bb o0) [])) _
    refine XS.aload X8.here hx rfl (hb hby at_131) rfl rfl ?_
    refine XS.lload X8.here hx rfl (hb hby at_133) rfl ?_
    refine XS.lload X8.here hx rfl (hb hby at_135) rfl ?_
    exact k
  refine own_cc (own_callV X8 hx hZ (y := y15_) (z := y15_) hown (hW hw 33 rfl) (hW hw 34 rfl) (notFace_of_selects (args := #[]) (mvT hZ (hW hw 36 rfl))) (hW hw 36 rfl) (hW hw 35 rfl) (hW hw 3 rfl) (hW hw 37 rfl) dE_ (rm3_11 l Z a0 hw [] o0 q3 aa aP aS aL aR aH (0 : Int32) (0 : Int32) (0 : Int32) (0 : Int32) (nar .boolean hi) kP (0 : Int64) xP1 xP2 kS (0 : Int64) xS1 xS2 kL (0 : Int32) xL1 xL2 kR (0 : Int32) xR1 xR2 kH (0 : Int32) xH1 xH2 T6.heap n0 Z0 E_o0 F_prices_o0 F_sizes_o0 F_left_o0 F_right_o0 F_heights_o0 F_root_o0 F_best_o0 F_unused_o0 F_free_o0 F_count_o0 F_highestFirst_o0 g_o0 V_aP g_aP V_aS g_aS V_aL g_aL V_aR g_aR V_aH g_aH haa (by decide : (0 : Int32) = (0 : Int32)) (by decide : (0 : Int32) = (0 : Int32)) (Ne.symm ne_aP_aS) (Ne.symm ne_aP_aL) (Ne.symm ne_aP_aR) (Ne.symm ne_aP_aH) (Ne.symm ne_aS_aL) (Ne.symm ne_aS_aR) (Ne.symm ne_aS_aH) (Ne.symm ne_aL_aR) (Ne.symm ne_aL_aH) (Ne.symm ne_aR_aH)) e8 0 dE_ dE_ dE_ dE_ rfl (by rw [hml]; rfl) o0 E_o0 [(.long q3), (.long aa)] [] rfl (lenOf pd_2 rfl) rfl (by show 2 * 0 + _ ≤ _; exact Nat.le_of_eq rfl) (hb hby at_137)) fun T10 L10 v10 X10 hQ10 => ?_
  obtain ⟨rfl, N10, K10, E_o0', F_prices_o0', F_sizes_o0', F_left_o0', F_right_o0', F_heights_o0', F_root_o0', F_best_o0', F_unused_o0', F_free_o0', F_count_o0', F_highestFirst_o0', V_aP', V_aS', V_aL', V_aR', V_aH'⟩ := hQ10
  replace N0 := Fr.app N0 N10
  replace E_o0 := E_o0.keep K10
  replace E_b1_6 := E_b1_6.keep K10
  replace F_modCount_b1_6 := F_modCount_b1_6.keep K10 (ninS (Ne.symm ne_o0_b1_6) (ninS (Ne.symm ne_aP_b1_6) (ninS (Ne.symm ne_aS_b1_6) (ninS (Ne.symm ne_aL_b1_6) (ninS (Ne.symm ne_aR_b1_6) (ninS (Ne.symm ne_aH_b1_6) nin0))))))
  replace F_elementData_b1_6 := F_elementData_b1_6.keep K10 (ninS (Ne.symm ne_o0_b1_6) (ninS (Ne.symm ne_aP_b1_6) (ninS (Ne.symm ne_aS_b1_6) (ninS (Ne.symm ne_aL_b1_6) (ninS (Ne.symm ne_aR_b1_6) (ninS (Ne.symm ne_aH_b1_6) nin0))))))
  replace F_size_b1_6 := F_size_b1_6.keep K10 (ninS (Ne.symm ne_o0_b1_6) (ninS (Ne.symm ne_aP_b1_6) (ninS (Ne.symm ne_aS_b1_6) (ninS (Ne.symm ne_aL_b1_6) (ninS (Ne.symm ne_aR_b1_6) (ninS (Ne.symm ne_aH_b1_6) nin0))))))
  replace OZ := OZ.keep K10 (allS g_o0 (allS g_aP (allS g_aS (allS g_aL (allS g_aR (allS g_aH all0))))))
  replace Z0 := Nat.le_trans Z0 K10.1
  replace E_o0 := E_o0'
  have F_prices_o0 := F_prices_o0'
  have F_sizes_o0 := F_sizes_o0'
  have F_left_o0 := F_left_o0'
  have F_right_o0 := F_right_o0'
  have F_heights_o0 := F_heights_o0'
  have F_root_o0 := F_root_o0'
  have F_best_o0 := F_best_o0'
  have F_unused_o0 := F_unused_o0'
  have F_free_o0 := F_free_o0'
  have F_count_o0 : Fld Z T10.heap o0 c0_ "count" "I" (.int (1 : Int32)) := F_count_o0'
  have F_highestFirst_o0 := F_highestFirst_o0'
  have V_aP := V_aP'
  have V_aS := V_aS'
  have V_aL := V_aL'
  have V_aR := V_aR'
  have V_aH := V_aH'
  show own_Go p e below _ (T10.setTop (mkF m 140 (lA5_ p0 q1 q2 q3 q4 q5 hi aa bb o0) []))
  refine own_by (B := T10.setTop (mkF m 145 (lA5_ p0 q1 q2 q3 q4 q5 hi aa bb o0) [(.long bb), (.long q2), (.ref o0)])) (fun t k => ?_) ?_
  · refine XS.aload X10.here hx rfl (hb hby at_140) rfl rfl ?_
    refine XS.lloadN X10.here hx rfl (hb hby at_142) rfl ?_
    refine XS.lload X10.here hx rfl (hb hby at_143) rfl ?_
    exact k
  by_cases hc13 : (fcp q2 q3 (nar .boolean hi)) = (0 : Int32)
  · skip
    show own_Go p e below _ (T10.setTop (mkF m 145 (lA5_ p0 q1 q2 q3 q4 q5 hi aa bb o0) [(.long bb), (.long q2), (.ref o0)]))
    refine own_cc (own_callV X10 hx hZ (y := y15_) (z := y15_) hown (hW hw 33 rfl) (hW hw 34 rfl) (notFace_of_selects (args := #[]) (mvT hZ (hW hw 36 rfl))) (hW hw 36 rfl) (hW hw 35 rfl) (hW hw 3 rfl) (hW hw 37 rfl) dE_ (rm3_13 l Z a0 hw [] o0 q2 bb aP aS aL aR aH (1 : Int32) (2 : Int32) (0 : Int32) (1 : Int32) (nar .boolean hi) kP (0 : Int64) q3 xP2 kS (0 : Int64) aa xS2 kL (0 : Int32) (0 : Int32) xL2 T10.heap n0 Z0 E_o0 g_o0 F_prices_o0 F_sizes_o0 F_left_o0 F_right_o0 F_heights_o0 F_root_o0 F_best_o0 F_unused_o0 F_free_o0 F_count_o0 F_highestFirst_o0 V_aP g_aS V_aS V_aL hbb (by decide : (0 : Int32) = (0 : Int32)) (by decide : ¬ ((2 : Int32) = (8 : Int32))) hc13 ne_aP_aS (Ne.symm ne_aS_aL) (by decide : (0 : Int32) = (0 : Int32))) (rfl : T10.heap = _) 0 dE_ dE_ dE_ dE_ rfl (by rw [hml]; rfl) o0 E_o0 [(.long q2), (.long bb)] [] rfl (lenOf pd_2 rfl) rfl (by show 2 * 0 + _ ≤ _; exact Nat.le_of_eq rfl) (hb hby at_145)) fun T15 L15 v15 X15 hQ15 => ?_
    obtain ⟨rfl, N15, K15, V_aS', E_o0', F_prices_o0', F_sizes_o0', F_left_o0', F_right_o0', F_heights_o0', F_root_o0', F_best_o0', F_unused_o0', F_free_o0', F_count_o0', F_highestFirst_o0'⟩ := hQ15
    replace N0 := Fr.app N0 N15
    have nx1 : aP ≠ o0 := (Ne.symm (own_nev E_o0 (hW hw 2 rfl) V_aP))
    have nx2 : aL ≠ o0 := (Ne.symm (own_nev E_o0 (hW hw 2 rfl) V_aL))
    have nx3 : aR ≠ o0 := (Ne.symm (own_nev E_o0 (hW hw 2 rfl) V_aR))
    have nx4 : aH ≠ o0 := (Ne.symm (own_nev E_o0 (hW hw 2 rfl) V_aH))
    replace E_o0 := E_o0.keep K15
    replace E_b1_6 := E_b1_6.keep K15
    replace F_modCount_b1_6 := F_modCount_b1_6.keep K15 (ninS (Ne.symm ne_aS_b1_6) (ninS (Ne.symm ne_o0_b1_6) nin0))
    replace F_elementData_b1_6 := F_elementData_b1_6.keep K15 (ninS (Ne.symm ne_aS_b1_6) (ninS (Ne.symm ne_o0_b1_6) nin0))
    replace F_size_b1_6 := F_size_b1_6.keep K15 (ninS (Ne.symm ne_aS_b1_6) (ninS (Ne.symm ne_o0_b1_6) nin0))
    replace V_aP := V_aP.keep K15 (ninS ne_aP_aS (ninS nx1 nin0))
    replace V_aL := V_aL.keep K15 (ninS (Ne.symm ne_aS_aL) (ninS nx2 nin0))
    replace V_aR := V_aR.keep K15 (ninS (Ne.symm ne_aS_aR) (ninS nx3 nin0))
    replace V_aH := V_aH.keep K15 (ninS (Ne.symm ne_aS_aH) (ninS nx4 nin0))
    replace OZ := OZ.keep K15 (allS g_aS (allS g_o0 all0))
    replace Z0 := Nat.le_trans Z0 K15.1
    have V_aS := V_aS'
    replace E_o0 := E_o0'
    have F_prices_o0 := F_prices_o0'
    have F_sizes_o0 := F_sizes_o0'
    have F_left_o0 := F_left_o0'
    have F_right_o0 := F_right_o0'
    have F_heights_o0 := F_heights_o0'
    have F_root_o0 := F_root_o0'
    have F_best_o0 := F_best_o0'
    have F_unused_o0 := F_unused_o0'
    have F_free_o0 := F_free_o0'
    have F_count_o0 := F_count_o0'
    have F_highestFirst_o0 := F_highestFirst_o0'
    show own_Go p e below _ (T15.setTop (mkF m 148 (lA5_ p0 q1 q2 q3 q4 q5 hi aa bb o0) []))
    refine own_by (B := T15.setTop (mkF m 150 (lA5_ p0 q1 q2 q3 q4 q5 hi aa bb o0) [(.ref o0)])) (fun t k => ?_) ?_
    · refine XS.aload X15.here hx rfl (hb hby at_148) rfl rfl ?_
      exact k
    refine own_cc (own_callV X15 hx hZ (y := y11_) (z := y11_) hown (hW hw 83 rfl) (hW hw 84 rfl) (notFace_of_selects (args := #[]) (mvT hZ (hW hw 86 rfl))) (hW hw 86 rfl) (hW hw 85 rfl) (hW hw 3 rfl) (hW hw 87 rfl) dE_ (rm14_20 l Z a0 hw [] o0 aP aS aL aR kP (0 : Int64) q3 xP2 kS (0 : Int64) bb xS2 kL (0 : Int32) (0 : Int32) xL2 kR (0 : Int32) (0 : Int32) xR2 T15.heap n0 Z0 E_o0 F_prices_o0 F_sizes_o0 F_left_o0 F_right_o0 F_root_o0 F_count_o0 V_aP V_aS V_aL V_aR (by decide : (0 : Int32) = (0 : Int32)) (by decide : (0 : Int32) = (0 : Int32))) (rfl : T15.heap = _) 0 dE_ dE_ dE_ dE_ rfl (by rw [hml]; rfl) o0 E_o0 [] [] rfl (lenOf pd_9 rfl) rfl (by show 2 * 0 + _ ≤ _; exact Nat.le_of_eq rfl) (hb hby at_150)) fun T17 L17 v17 X17 hQ17 => ?_
    obtain ⟨b1_17, b3_4_17, b5_7_17, k3_4_17, rfl, N17, K17, E_b1_17', F_modCount_b1_17', F_elementData_b1_17', F_size_b1_17', V_b3_4_17', Ov_k3_4_17', E_b5_7_17', F_price_b5_7_17', F_size_b5_7_17', sz_b1_17', sz_b3_4_17', sz_b5_7_17', ne_b1_17_b3_4_17', ne_b1_17_b5_7_17', ne_b3_4_17_b5_7_17'⟩ := hQ17
    replace N0 := Fr.app N0 N17
    have g_b1_17 : n0 ≤ b1_17 := Nat.le_trans Z0 sz_b1_17'
    have ne_o0_b1_17 : o0 ≠ b1_17 := Nat.ne_of_lt (Nat.lt_of_lt_of_le E_o0.lt sz_b1_17')
    have ne_b1_6_b1_17 : b1_6 ≠ b1_17 := Nat.ne_of_lt (Nat.lt_of_lt_of_le E_b1_6.lt sz_b1_17')
    have ne_aP_b1_17 : aP ≠ b1_17 := Nat.ne_of_lt (Nat.lt_of_lt_of_le V_aP.lt sz_b1_17')
    have ne_aL_b1_17 : aL ≠ b1_17 := Nat.ne_of_lt (Nat.lt_of_lt_of_le V_aL.lt sz_b1_17')
    have ne_aR_b1_17 : aR ≠ b1_17 := Nat.ne_of_lt (Nat.lt_of_lt_of_le V_aR.lt sz_b1_17')
    have ne_aH_b1_17 : aH ≠ b1_17 := Nat.ne_of_lt (Nat.lt_of_lt_of_le V_aH.lt sz_b1_17')
    have ne_aS_b1_17 : aS ≠ b1_17 := Nat.ne_of_lt (Nat.lt_of_lt_of_le V_aS.lt sz_b1_17')
    have g_b3_4_17 : n0 ≤ b3_4_17 := Nat.le_trans Z0 sz_b3_4_17'
    have ne_o0_b3_4_17 : o0 ≠ b3_4_17 := Nat.ne_of_lt (Nat.lt_of_lt_of_le E_o0.lt sz_b3_4_17')
    have ne_b1_6_b3_4_17 : b1_6 ≠ b3_4_17 := Nat.ne_of_lt (Nat.lt_of_lt_of_le E_b1_6.lt sz_b3_4_17')
    have ne_aP_b3_4_17 : aP ≠ b3_4_17 := Nat.ne_of_lt (Nat.lt_of_lt_of_le V_aP.lt sz_b3_4_17')
    have ne_aL_b3_4_17 : aL ≠ b3_4_17 := Nat.ne_of_lt (Nat.lt_of_lt_of_le V_aL.lt sz_b3_4_17')
    have ne_aR_b3_4_17 : aR ≠ b3_4_17 := Nat.ne_of_lt (Nat.lt_of_lt_of_le V_aR.lt sz_b3_4_17')
    have ne_aH_b3_4_17 : aH ≠ b3_4_17 := Nat.ne_of_lt (Nat.lt_of_lt_of_le V_aH.lt sz_b3_4_17')
    have ne_aS_b3_4_17 : aS ≠ b3_4_17 := Nat.ne_of_lt (Nat.lt_of_lt_of_le V_aS.lt sz_b3_4_17')
    have g_b5_7_17 : n0 ≤ b5_7_17 := Nat.le_trans Z0 sz_b5_7_17'
    have ne_o0_b5_7_17 : o0 ≠ b5_7_17 := Nat.ne_of_lt (Nat.lt_of_lt_of_le E_o0.lt sz_b5_7_17')
    have ne_b1_6_b5_7_17 : b1_6 ≠ b5_7_17 := Nat.ne_of_lt (Nat.lt_of_lt_of_le E_b1_6.lt sz_b5_7_17')
    have ne_aP_b5_7_17 : aP ≠ b5_7_17 := Nat.ne_of_lt (Nat.lt_of_lt_of_le V_aP.lt sz_b5_7_17')
    have ne_aL_b5_7_17 : aL ≠ b5_7_17 := Nat.ne_of_lt (Nat.lt_of_lt_of_le V_aL.lt sz_b5_7_17')
    have ne_aR_b5_7_17 : aR ≠ b5_7_17 := Nat.ne_of_lt (Nat.lt_of_lt_of_le V_aR.lt sz_b5_7_17')
    have ne_aH_b5_7_17 : aH ≠ b5_7_17 := Nat.ne_of_lt (Nat.lt_of_lt_of_le V_aH.lt sz_b5_7_17')
    have ne_aS_b5_7_17 : aS ≠ b5_7_17 := Nat.ne_of_lt (Nat.lt_of_lt_of_le V_aS.lt sz_b5_7_17')
    replace E_o0 := E_o0.keep K17
    replace E_b1_6 := E_b1_6.keep K17
    replace F_modCount_b1_6 := F_modCount_b1_6.keep K17 nin0
    replace F_elementData_b1_6 := F_elementData_b1_6.keep K17 nin0
    replace F_size_b1_6 := F_size_b1_6.keep K17 nin0
    replace V_aP := V_aP.keep K17 nin0
    replace V_aL := V_aL.keep K17 nin0
    replace V_aR := V_aR.keep K17 nin0
    replace V_aH := V_aH.keep K17 nin0
    replace V_aS := V_aS.keep K17 nin0
    replace F_prices_o0 := F_prices_o0.keep K17 nin0
    replace F_sizes_o0 := F_sizes_o0.keep K17 nin0
    replace F_left_o0 := F_left_o0.keep K17 nin0
    replace F_right_o0 := F_right_o0.keep K17 nin0
    replace F_heights_o0 := F_heights_o0.keep K17 nin0
    replace F_root_o0 := F_root_o0.keep K17 nin0
    replace F_best_o0 := F_best_o0.keep K17 nin0
    replace F_unused_o0 := F_unused_o0.keep K17 nin0
    replace F_free_o0 := F_free_o0.keep K17 nin0
    replace F_count_o0 := F_count_o0.keep K17 nin0
    replace F_highestFirst_o0 := F_highestFirst_o0.keep K17 nin0
    replace OZ := OZ.keep K17 all0
    replace Z0 := Nat.le_trans Z0 K17.1
    have E_b1_17 := E_b1_17'
    have F_modCount_b1_17 := F_modCount_b1_17'
    have F_elementData_b1_17 := F_elementData_b1_17'
    have F_size_b1_17 := F_size_b1_17'
    have V_b3_4_17 := V_b3_4_17'
    have Ov_k3_4_17 := Ov_k3_4_17'
    have E_b5_7_17 := E_b5_7_17'
    have F_price_b5_7_17 := F_price_b5_7_17'
    have F_size_b5_7_17 := F_size_b5_7_17'
    have ne_b1_17_b3_4_17 := ne_b1_17_b3_4_17'
    have ne_b1_17_b5_7_17 := ne_b1_17_b5_7_17'
    have ne_b3_4_17_b5_7_17 := ne_b3_4_17_b5_7_17'
    show own_Go p e below _ (T17.setTop (mkF m 153 (lA5_ p0 q1 q2 q3 q4 q5 hi aa bb o0) [(.ref b1_17)]))
    refine own_by (B := T17.setTop (mkF m 164 (lA6_ p0 q1 q2 q3 q4 q5 hi aa bb o0 b1_17) [(.ref b1_17)])) (fun t k => ?_) ?_
    · refine XS.astore X17.here hx rfl (hb hby at_153) rfl rfl (l' := (lA6_ p0 q1 q2 q3 q4 q5 hi aa bb o0 b1_17)) rfl ?_
      show Steps p.tables e below (T17.setTop (mkF m 155 (lA6_ p0 q1 q2 q3 q4 q5 hi aa bb o0 b1_17) [])) _
      refine XS.lload X17.here hx rfl (hb hby at_155) rfl ?_
      refine XS.lloadN X17.here hx rfl (hb hby at_157) rfl ?_
      refine XS.lcmp X17.here hx rfl (hb hby at_158) rfl ?_
      show Steps p.tables e below (T17.setTop (mkF m 159 (lA6_ p0 q1 q2 q3 q4 q5 hi aa bb o0 b1_17) [(.int (lcmpW q3 q2))])) _
      refine XS.ifNo X17.here hx rfl (hb hby at_159) rfl ((if0 _ _).trans (teq ((lw_eq _ _).mpr (own_ceq q2 q3 _ hc13))).2) ?_
      show Steps p.tables e below (T17.setTop (mkF m 162 (lA6_ p0 q1 q2 q3 q4 q5 hi aa bb o0 b1_17) [])) _
      refine XS.aload X17.here hx rfl (hb hby at_162) rfl rfl ?_
      exact k
    refine own_cc (own_callF X17 hx hZ (y := y29_) (z := y12_) hown (hW hw 116 rfl) (hW hw 117 rfl) (hW hw 118 rfl) (hW hw 119 rfl) (hW hw 120 rfl) (hW hw 121 rfl) (hW hw 122 rfl) (hW hw 123 rfl) (hW hw 90 rfl) (hW hw 124 rfl) dE_ (rm19_8 l Z a0 hw [] b1_17 (1 : Int32) T17.heap n0 Z0 F_size_b1_17) (rfl : T17.heap = _) 0 dE_ dE_ dE_ dE_ rfl (by rw [hml]; rfl) b1_17 E_b1_17 [] [] rfl (lenOf pd_11 rfl) rfl (by show 2 * 0 + _ ≤ _; exact Nat.le_of_eq rfl) (hb hby at_164)) fun T19 L19 v19 X19 hQ19 => ?_
    obtain ⟨rfl, N19, e19⟩ := hQ19
    replace N0 := Fr.app N0 N19
    show own_Go p e below _ (T19.setTop (mkF m 169 (lA6_ p0 q1 q2 q3 q4 q5 hi aa bb o0 b1_17) [(.int (1 : Int32))]))
    refine own_by (B := T19.setTop (mkF m 176 (lA6_ p0 q1 q2 q3 q4 q5 hi aa bb o0 b1_17) [oZ, (.ref b1_17)])) (fun t k => ?_) ?_
    · refine XS.iconst X19.here hx rfl (hb hby at_169) ?_
      refine XS.icmpNo X19.here hx rfl (hb hby at_170) rfl (teq (by decide : (1 : Int32) = (1 : Int32))).2 ?_
      show Steps p.tables e below (T19.setTop (mkF m 173 (lA6_ p0 q1 q2 q3 q4 q5 hi aa bb o0 b1_17) [])) _
      refine XS.aload X19.here hx rfl (hb hby at_173) rfl rfl ?_
      refine XS.iconst X19.here hx rfl (hb hby at_175) ?_
      exact k
    refine own_cc (own_callF X19 hx hZ (y := y30_) (z := y24_) hown (hW hw 164 rfl) (hW hw 165 rfl) (hW hw 166 rfl) (hW hw 167 rfl) (hW hw 168 rfl) (hW hw 169 rfl) (hW hw 170 rfl) (hW hw 123 rfl) (hW hw 90 rfl) (hW hw 171 rfl) dE_ (rm25_24 l Z a0 hw [] b1_17 b3_4_17 b5_7_17 (1 : Int32) k3_4_17 T17.heap n0 Z0 E_b1_17 F_elementData_b1_17 F_size_b1_17 V_b3_4_17 (by decide : (0 : Int32) < (1 : Int32))) e19 0 dE_ dE_ dE_ dE_ rfl (by rw [hml]; rfl) b1_17 E_b1_17 [oZ] [] rfl (lenOf pd_15 rfl) rfl (by show 2 * 0 + _ ≤ _; exact Nat.le_of_eq rfl) (hb hby at_176)) fun T21 L21 v21 X21 hQ21 => ?_
    obtain ⟨rfl, N21, e21⟩ := hQ21
    replace N0 := Fr.app N0 N21
    show own_Go p e below _ (T21.setTop (mkF m 181 (lA6_ p0 q1 q2 q3 q4 q5 hi aa bb o0 b1_17) [(.ref b5_7_17)]))
    refine own_c1 (castY X21 hx hZ hown (hW hw 185 rfl) e21 (Ins.self E_b5_7_17) rfl rfl (hb hby at_181)) fun T22 X22 e22 => ?_
    show own_Go p e below _ (T22.setTop (mkF m 184 (lA6_ p0 q1 q2 q3 q4 q5 hi aa bb o0 b1_17) [(.ref b5_7_17)]))
    refine own_cc (own_callV X22 hx hZ (y := y25_) (z := y25_) hown (hW hw 187 rfl) (hW hw 188 rfl) (notFace_of_selects (args := #[]) (mvT hZ (hW hw 190 rfl))) (hW hw 190 rfl) (hW hw 189 rfl) (hW hw 131 rfl) (hW hw 191 rfl) dE_ (rm29_25 l Z a0 hw [] b5_7_17 q3 T17.heap n0 Z0 F_price_b5_7_17) e22 0 dE_ dE_ dE_ dE_ rfl (by rw [hml]; rfl) b5_7_17 E_b5_7_17 [] [] rfl (lenOf pd_8 rfl) rfl (by show 2 * 0 + _ ≤ _; exact Nat.le_of_eq rfl) (hb hby at_184)) fun T24 L24 v24 X24 hQ24 => ?_
    obtain ⟨rfl, N24, e24⟩ := hQ24
    replace N0 := Fr.app N0 N24
    show own_Go p e below _ (T24.setTop (mkF m 187 (lA6_ p0 q1 q2 q3 q4 q5 hi aa bb o0 b1_17) [(.long q3)]))
    refine own_by (B := T24.setTop (mkF m 196 (lA6_ p0 q1 q2 q3 q4 q5 hi aa bb o0 b1_17) [oZ, (.ref b1_17)])) (fun t k => ?_) ?_
    · refine XS.lload X24.here hx rfl (hb hby at_187) rfl ?_
      refine XS.lcmp X24.here hx rfl (hb hby at_189) rfl ?_
      show Steps p.tables e below (T24.setTop (mkF m 190 (lA6_ p0 q1 q2 q3 q4 q5 hi aa bb o0 b1_17) [(.int (lcmpW q3 q3))])) _
      refine XS.ifNo X24.here hx rfl (hb hby at_190) rfl ((if0 _ _).trans (teq ((lw_eq _ _).mpr (rfl : q3 = q3))).2) ?_
      show Steps p.tables e below (T24.setTop (mkF m 193 (lA6_ p0 q1 q2 q3 q4 q5 hi aa bb o0 b1_17) [])) _
      refine XS.aload X24.here hx rfl (hb hby at_193) rfl rfl ?_
      refine XS.iconst X24.here hx rfl (hb hby at_195) ?_
      exact k
    refine own_cc (own_callF X24 hx hZ (y := y30_) (z := y24_) hown (hW hw 164 rfl) (hW hw 165 rfl) (hW hw 166 rfl) (hW hw 167 rfl) (hW hw 168 rfl) (hW hw 169 rfl) (hW hw 170 rfl) (hW hw 123 rfl) (hW hw 90 rfl) (hW hw 171 rfl) dE_ (rm25_24 l Z a0 hw [] b1_17 b3_4_17 b5_7_17 (1 : Int32) k3_4_17 T17.heap n0 Z0 E_b1_17 F_elementData_b1_17 F_size_b1_17 V_b3_4_17 (by decide : (0 : Int32) < (1 : Int32))) e24 0 dE_ dE_ dE_ dE_ rfl (by rw [hml]; rfl) b1_17 E_b1_17 [oZ] [] rfl (lenOf pd_15 rfl) rfl (by show 2 * 0 + _ ≤ _; exact Nat.le_of_eq rfl) (hb hby at_196)) fun T26 L26 v26 X26 hQ26 => ?_
    obtain ⟨rfl, N26, e26⟩ := hQ26
    replace N0 := Fr.app N0 N26
    show own_Go p e below _ (T26.setTop (mkF m 201 (lA6_ p0 q1 q2 q3 q4 q5 hi aa bb o0 b1_17) [(.ref b5_7_17)]))
    refine own_c1 (castY X26 hx hZ hown (hW hw 185 rfl) e26 (Ins.self E_b5_7_17) rfl rfl (hb hby at_201)) fun T27 X27 e27 => ?_
    show own_Go p e below _ (T27.setTop (mkF m 204 (lA6_ p0 q1 q2 q3 q4 q5 hi aa bb o0 b1_17) [(.ref b5_7_17)]))
    refine own_cc (own_callV X27 hx hZ (y := y26_) (z := y26_) hown (hW hw 192 rfl) (hW hw 193 rfl) (notFace_of_selects (args := #[]) (mvT hZ (hW hw 195 rfl))) (hW hw 195 rfl) (hW hw 194 rfl) (hW hw 131 rfl) (hW hw 196 rfl) dE_ (rm30_26 l Z a0 hw [] b5_7_17 bb T17.heap n0 Z0 F_size_b5_7_17) e27 0 dE_ dE_ dE_ dE_ rfl (by rw [hml]; rfl) b5_7_17 E_b5_7_17 [] [] rfl (lenOf pd_8 rfl) rfl (by show 2 * 0 + _ ≤ _; exact Nat.le_of_eq rfl) (hb hby at_204)) fun T29 L29 v29 X29 hQ29 => ?_
    obtain ⟨rfl, N29, e29⟩ := hQ29
    replace N0 := Fr.app N0 N29
    show own_Go p e below _ (T29.setTop (mkF m 207 (lA6_ p0 q1 q2 q3 q4 q5 hi aa bb o0 b1_17) [(.long bb)]))
    refine own_by (B := T29.setTop (mkF m 215 (lA6_ p0 q1 q2 q3 q4 q5 hi aa bb o0 b1_17) [(.ref o0)])) (fun t k => ?_) ?_
    · refine XS.lload X29.here hx rfl (hb hby at_207) rfl ?_
      refine XS.lcmp X29.here hx rfl (hb hby at_209) rfl ?_
      show Steps p.tables e below (T29.setTop (mkF m 210 (lA6_ p0 q1 q2 q3 q4 q5 hi aa bb o0 b1_17) [(.int (lcmpW bb bb))])) _
      refine XS.ifNo X29.here hx rfl (hb hby at_210) rfl ((if0 _ _).trans (teq ((lw_eq _ _).mpr (rfl : bb = bb))).2) ?_
      show Steps p.tables e below (T29.setTop (mkF m 213 (lA6_ p0 q1 q2 q3 q4 q5 hi aa bb o0 b1_17) [])) _
      refine XS.aload X29.here hx rfl (hb hby at_213) rfl rfl ?_
      exact k
    refine own_cc (own_callV X29 hx hZ (y := y5_) (z := y5_) hown (hW hw 73 rfl) (hW hw 74 rfl) (notFace_of_selects (args := #[]) (mvT hZ (hW hw 76 rfl))) (hW hw 76 rfl) (hW hw 75 rfl) (hW hw 3 rfl) (hW hw 77 rfl) dE_ (rm12_27 l Z a0 hw [] o0 aP kP (0 : Int64) q3 xP2 T17.heap n0 Z0 F_prices_o0 F_best_o0 V_aP) e29 0 dE_ dE_ dE_ dE_ rfl (by rw [hml]; rfl) o0 E_o0 [] [] rfl (lenOf pd_8 rfl) rfl (by show 2 * 0 + _ ≤ _; exact Nat.le_of_eq rfl) (hb hby at_215)) fun T31 L31 v31 X31 hQ31 => ?_
    obtain ⟨rfl, N31, e31⟩ := hQ31
    replace N0 := Fr.app N0 N31
    show own_Go p e below _ (T31.setTop (mkF m 218 (lA6_ p0 q1 q2 q3 q4 q5 hi aa bb o0 b1_17) [(.long q3)]))
    refine own_by (B := T31.setTop (mkF m 226 (lA6_ p0 q1 q2 q3 q4 q5 hi aa bb o0 b1_17) [(.ref o0)])) (fun t k => ?_) ?_
    · refine XS.lload X31.here hx rfl (hb hby at_218) rfl ?_
      refine XS.lcmp X31.here hx rfl (hb hby at_220) rfl ?_
      show Steps p.tables e below (T31.setTop (mkF m 221 (lA6_ p0 q1 q2 q3 q4 q5 hi aa bb o0 b1_17) [(.int (lcmpW q3 q3))])) _
      refine XS.ifNo X31.here hx rfl (hb hby at_221) rfl ((if0 _ _).trans (teq ((lw_eq _ _).mpr (rfl : q3 = q3))).2) ?_
      show Steps p.tables e below (T31.setTop (mkF m 224 (lA6_ p0 q1 q2 q3 q4 q5 hi aa bb o0 b1_17) [])) _
      refine XS.aload X31.here hx rfl (hb hby at_224) rfl rfl ?_
      exact k
    refine own_cc (own_callV X31 hx hZ (y := y6_) (z := y6_) hown (hW hw 78 rfl) (hW hw 79 rfl) (notFace_of_selects (args := #[]) (mvT hZ (hW hw 81 rfl))) (hW hw 81 rfl) (hW hw 80 rfl) (hW hw 3 rfl) (hW hw 82 rfl) dE_ (rm13_28 l Z a0 hw [] o0 aS kS (0 : Int64) bb xS2 T17.heap n0 Z0 F_sizes_o0 F_best_o0 V_aS) e31 0 dE_ dE_ dE_ dE_ rfl (by rw [hml]; rfl) o0 E_o0 [] [] rfl (lenOf pd_8 rfl) rfl (by show 2 * 0 + _ ≤ _; exact Nat.le_of_eq rfl) (hb hby at_226)) fun T33 L33 v33 X33 hQ33 => ?_
    obtain ⟨rfl, N33, e33⟩ := hQ33
    replace N0 := Fr.app N0 N33
    show own_Go p e below _ (T33.setTop (mkF m 229 (lA6_ p0 q1 q2 q3 q4 q5 hi aa bb o0 b1_17) [(.long bb)]))
    refine own_by (B := T33.setTop (mkF m 240 (lA6_ p0 q1 q2 q3 q4 q5 hi aa bb o0 b1_17) [(.int (1 : Int32))])) (fun t k => ?_) ?_
    · refine XS.lload X33.here hx rfl (hb hby at_229) rfl ?_
      refine XS.lcmp X33.here hx rfl (hb hby at_231) rfl ?_
      show Steps p.tables e below (T33.setTop (mkF m 232 (lA6_ p0 q1 q2 q3 q4 q5 hi aa bb o0 b1_17) [(.int (lcmpW bb bb))])) _
      refine XS.ifNo X33.here hx rfl (hb hby at_232) rfl ((if0 _ _).trans (teq ((lw_eq _ _).mpr (rfl : bb = bb))).2) ?_
      show Steps p.tables e below (T33.setTop (mkF m 235 (lA6_ p0 q1 q2 q3 q4 q5 hi aa bb o0 b1_17) [])) _
      refine XS.iconst X33.here hx rfl (hb hby at_235) ?_
      refine XS.goto X33.here hx rfl (pc0 := 236) (pc' := 240) rfl (hb hby at_236) dE_ dE_ ?_
      show Steps p.tables e below (T33.setTop (mkF m 240 (lA6_ p0 q1 q2 q3 q4 q5 hi aa bb o0 b1_17) [(.int (1 : Int32))])) _
      exact k
    exact own_retN X33 Blk hx (t := .boolean) Bret (by simp) (hb hby at_240) (by
        try rw [show T33.heap = T17.heap from e33]
        exact ⟨rfl, N0⟩) dE_ dE_
  · skip
    show own_Go p e below _ (T10.setTop (mkF m 145 (lA5_ p0 q1 q2 q3 q4 q5 hi aa bb o0) [(.long bb), (.long q2), (.ref o0)]))
    by_cases hc36 : (fcp q2 q3 (nar .boolean hi)) < (0 : Int32)
    · skip
      show own_Go p e below _ (T10.setTop (mkF m 145 (lA5_ p0 q1 q2 q3 q4 q5 hi aa bb o0) [(.long bb), (.long q2), (.ref o0)]))
      refine own_cc (own_callV X10 hx hZ (y := y15_) (z := y15_) hown (hW hw 33 rfl) (hW hw 34 rfl) (notFace_of_selects (args := #[]) (mvT hZ (hW hw 36 rfl))) (hW hw 36 rfl) (hW hw 35 rfl) (hW hw 3 rfl) (hW hw 37 rfl) dE_ (rm3_34 l Z a0 hw [] o0 q2 bb aP aS aL aR aH (1 : Int32) (0 : Int32) (1 : Int32) (nar .boolean hi) kP (0 : Int64) q3 xP2 kS (0 : Int64) aa xS2 kL (0 : Int32) (0 : Int32) xL2 kR (0 : Int32) xR2 kH (0 : Int32) (1 : Int32) xH2 T10.heap n0 Z0 E_o0 g_o0 F_prices_o0 F_sizes_o0 F_left_o0 F_right_o0 F_heights_o0 F_root_o0 F_best_o0 F_unused_o0 F_free_o0 F_count_o0 F_highestFirst_o0 g_aP V_aP g_aS V_aS g_aL V_aL g_aR V_aR g_aH V_aH hbb (by decide : (0 : Int32) = (0 : Int32)) hc13 hc36 (by decide : (0 : Int32) = (0 : Int32)) (Ne.symm ne_aP_aS) (Ne.symm ne_aP_aL) (Ne.symm ne_aP_aR) (Ne.symm ne_aP_aH) (Ne.symm ne_aS_aL) (Ne.symm ne_aS_aR) (Ne.symm ne_aS_aH) (Ne.symm ne_aL_aR) (Ne.symm ne_aL_aH) (Ne.symm ne_aR_aH) (by decide : ¬ ((1 : Int32) < (1 : Int32))) (by decide : ¬ ((1 : Int32) < (-1 : Int32)))) (rfl : T10.heap = _) 0 dE_ dE_ dE_ dE_ rfl (by rw [hml]; rfl) o0 E_o0 [(.long q2), (.long bb)] [] rfl (lenOf pd_2 rfl) rfl (by show 2 * 0 + _ ≤ _; exact Nat.le_of_eq rfl) (hb hby at_145)) fun T38 L38 v38 X38 hQ38 => ?_
      obtain ⟨rfl, N38, K38, V_aH', V_aR', V_aL', V_aS', V_aP', E_o0', F_prices_o0', F_sizes_o0', F_left_o0', F_right_o0', F_heights_o0', F_root_o0', F_best_o0', F_unused_o0', F_free_o0', F_count_o0', F_highestFirst_o0'⟩ := hQ38
      replace N0 := Fr.app N0 N38
      replace E_o0 := E_o0.keep K38
      replace E_b1_6 := E_b1_6.keep K38
      replace F_modCount_b1_6 := F_modCount_b1_6.keep K38 (ninS (Ne.symm ne_aH_b1_6) (ninS (Ne.symm ne_aR_b1_6) (ninS (Ne.symm ne_aL_b1_6) (ninS (Ne.symm ne_aS_b1_6) (ninS (Ne.symm ne_aP_b1_6) (ninS (Ne.symm ne_o0_b1_6) nin0))))))
      replace F_elementData_b1_6 := F_elementData_b1_6.keep K38 (ninS (Ne.symm ne_aH_b1_6) (ninS (Ne.symm ne_aR_b1_6) (ninS (Ne.symm ne_aL_b1_6) (ninS (Ne.symm ne_aS_b1_6) (ninS (Ne.symm ne_aP_b1_6) (ninS (Ne.symm ne_o0_b1_6) nin0))))))
      replace F_size_b1_6 := F_size_b1_6.keep K38 (ninS (Ne.symm ne_aH_b1_6) (ninS (Ne.symm ne_aR_b1_6) (ninS (Ne.symm ne_aL_b1_6) (ninS (Ne.symm ne_aS_b1_6) (ninS (Ne.symm ne_aP_b1_6) (ninS (Ne.symm ne_o0_b1_6) nin0))))))
      replace OZ := OZ.keep K38 (allS g_aH (allS g_aR (allS g_aL (allS g_aS (allS g_aP (allS g_o0 all0))))))
      replace Z0 := Nat.le_trans Z0 K38.1
      have V_aH : Arv Z T38.heap aH kH .byte (8 : Int32) [oZ, (.int (2 : Int32)), (.int (1 : Int32))] oZ := V_aH'
      have V_aR := V_aR'
      have V_aL := V_aL'
      have V_aS := V_aS'
      have V_aP := V_aP'
      replace E_o0 := E_o0'
      have F_prices_o0 := F_prices_o0'
      have F_sizes_o0 := F_sizes_o0'
      have F_left_o0 := F_left_o0'
      have F_right_o0 := F_right_o0'
      have F_heights_o0 := F_heights_o0'
      have F_root_o0 := F_root_o0'
      have F_best_o0 := F_best_o0'
      have F_unused_o0 := F_unused_o0'
      have F_free_o0 := F_free_o0'
      have F_count_o0 : Fld Z T38.heap o0 c0_ "count" "I" (.int (2 : Int32)) := F_count_o0'
      have F_highestFirst_o0 := F_highestFirst_o0'
      show own_Go p e below _ (T38.setTop (mkF m 148 (lA5_ p0 q1 q2 q3 q4 q5 hi aa bb o0) []))
      refine own_by (B := T38.setTop (mkF m 150 (lA5_ p0 q1 q2 q3 q4 q5 hi aa bb o0) [(.ref o0)])) (fun t k => ?_) ?_
      · refine XS.aload X38.here hx rfl (hb hby at_148) rfl rfl ?_
        exact k
      refine own_cc (own_callV X38 hx hZ (y := y11_) (z := y11_) hown (hW hw 83 rfl) (hW hw 84 rfl) (notFace_of_selects (args := #[]) (mvT hZ (hW hw 86 rfl))) (hW hw 86 rfl) (hW hw 85 rfl) (hW hw 3 rfl) (hW hw 87 rfl) dE_ (rm14_42 l Z a0 hw [] o0 aP aS aL aR kP (0 : Int64) q3 q2 kS (0 : Int64) aa bb kL (0 : Int32) (0 : Int32) kR (0 : Int32) (0 : Int32) (0 : Int32) T38.heap n0 Z0 E_o0 F_prices_o0 F_sizes_o0 F_left_o0 F_right_o0 F_root_o0 F_count_o0 V_aP V_aS V_aL V_aR (by decide : (0 : Int32) = (0 : Int32)) (by decide : (0 : Int32) = (0 : Int32)) (by decide : (0 : Int32) = (0 : Int32))) (rfl : T38.heap = _) 0 dE_ dE_ dE_ dE_ rfl (by rw [hml]; rfl) o0 E_o0 [] [] rfl (lenOf pd_9 rfl) rfl (by show 2 * 0 + _ ≤ _; exact Nat.le_of_eq rfl) (hb hby at_150)) fun T40 L40 v40 X40 hQ40 => ?_
      obtain ⟨b1_40, b3_4_40, b5_4_7_40, b5_7_40, k3_4_40, rfl, N40, K40, E_b1_40', F_modCount_b1_40', F_elementData_b1_40', F_size_b1_40', V_b3_4_40', Ov_k3_4_40', E_b5_4_7_40', F_price_b5_4_7_40', F_size_b5_4_7_40', E_b5_7_40', F_price_b5_7_40', F_size_b5_7_40', sz_b1_40', sz_b3_4_40', sz_b5_4_7_40', sz_b5_7_40', ne_b1_40_b3_4_40', ne_b1_40_b5_4_7_40', ne_b1_40_b5_7_40', ne_b3_4_40_b5_4_7_40', ne_b3_4_40_b5_7_40', ne_b5_4_7_40_b5_7_40'⟩ := hQ40
      replace N0 := Fr.app N0 N40
      have g_b1_40 : n0 ≤ b1_40 := Nat.le_trans Z0 sz_b1_40'
      have ne_o0_b1_40 : o0 ≠ b1_40 := Nat.ne_of_lt (Nat.lt_of_lt_of_le E_o0.lt sz_b1_40')
      have ne_b1_6_b1_40 : b1_6 ≠ b1_40 := Nat.ne_of_lt (Nat.lt_of_lt_of_le E_b1_6.lt sz_b1_40')
      have ne_aH_b1_40 : aH ≠ b1_40 := Nat.ne_of_lt (Nat.lt_of_lt_of_le V_aH.lt sz_b1_40')
      have ne_aR_b1_40 : aR ≠ b1_40 := Nat.ne_of_lt (Nat.lt_of_lt_of_le V_aR.lt sz_b1_40')
      have ne_aL_b1_40 : aL ≠ b1_40 := Nat.ne_of_lt (Nat.lt_of_lt_of_le V_aL.lt sz_b1_40')
      have ne_aS_b1_40 : aS ≠ b1_40 := Nat.ne_of_lt (Nat.lt_of_lt_of_le V_aS.lt sz_b1_40')
      have ne_aP_b1_40 : aP ≠ b1_40 := Nat.ne_of_lt (Nat.lt_of_lt_of_le V_aP.lt sz_b1_40')
      have g_b3_4_40 : n0 ≤ b3_4_40 := Nat.le_trans Z0 sz_b3_4_40'
      have ne_o0_b3_4_40 : o0 ≠ b3_4_40 := Nat.ne_of_lt (Nat.lt_of_lt_of_le E_o0.lt sz_b3_4_40')
      have ne_b1_6_b3_4_40 : b1_6 ≠ b3_4_40 := Nat.ne_of_lt (Nat.lt_of_lt_of_le E_b1_6.lt sz_b3_4_40')
      have ne_aH_b3_4_40 : aH ≠ b3_4_40 := Nat.ne_of_lt (Nat.lt_of_lt_of_le V_aH.lt sz_b3_4_40')
      have ne_aR_b3_4_40 : aR ≠ b3_4_40 := Nat.ne_of_lt (Nat.lt_of_lt_of_le V_aR.lt sz_b3_4_40')
      have ne_aL_b3_4_40 : aL ≠ b3_4_40 := Nat.ne_of_lt (Nat.lt_of_lt_of_le V_aL.lt sz_b3_4_40')
      have ne_aS_b3_4_40 : aS ≠ b3_4_40 := Nat.ne_of_lt (Nat.lt_of_lt_of_le V_aS.lt sz_b3_4_40')
      have ne_aP_b3_4_40 : aP ≠ b3_4_40 := Nat.ne_of_lt (Nat.lt_of_lt_of_le V_aP.lt sz_b3_4_40')
      have g_b5_4_7_40 : n0 ≤ b5_4_7_40 := Nat.le_trans Z0 sz_b5_4_7_40'
      have ne_o0_b5_4_7_40 : o0 ≠ b5_4_7_40 := Nat.ne_of_lt (Nat.lt_of_lt_of_le E_o0.lt sz_b5_4_7_40')
      have ne_b1_6_b5_4_7_40 : b1_6 ≠ b5_4_7_40 := Nat.ne_of_lt (Nat.lt_of_lt_of_le E_b1_6.lt sz_b5_4_7_40')
      have ne_aH_b5_4_7_40 : aH ≠ b5_4_7_40 := Nat.ne_of_lt (Nat.lt_of_lt_of_le V_aH.lt sz_b5_4_7_40')
      have ne_aR_b5_4_7_40 : aR ≠ b5_4_7_40 := Nat.ne_of_lt (Nat.lt_of_lt_of_le V_aR.lt sz_b5_4_7_40')
      have ne_aL_b5_4_7_40 : aL ≠ b5_4_7_40 := Nat.ne_of_lt (Nat.lt_of_lt_of_le V_aL.lt sz_b5_4_7_40')
      have ne_aS_b5_4_7_40 : aS ≠ b5_4_7_40 := Nat.ne_of_lt (Nat.lt_of_lt_of_le V_aS.lt sz_b5_4_7_40')
      have ne_aP_b5_4_7_40 : aP ≠ b5_4_7_40 := Nat.ne_of_lt (Nat.lt_of_lt_of_le V_aP.lt sz_b5_4_7_40')
      have g_b5_7_40 : n0 ≤ b5_7_40 := Nat.le_trans Z0 sz_b5_7_40'
      have ne_o0_b5_7_40 : o0 ≠ b5_7_40 := Nat.ne_of_lt (Nat.lt_of_lt_of_le E_o0.lt sz_b5_7_40')
      have ne_b1_6_b5_7_40 : b1_6 ≠ b5_7_40 := Nat.ne_of_lt (Nat.lt_of_lt_of_le E_b1_6.lt sz_b5_7_40')
      have ne_aH_b5_7_40 : aH ≠ b5_7_40 := Nat.ne_of_lt (Nat.lt_of_lt_of_le V_aH.lt sz_b5_7_40')
      have ne_aR_b5_7_40 : aR ≠ b5_7_40 := Nat.ne_of_lt (Nat.lt_of_lt_of_le V_aR.lt sz_b5_7_40')
      have ne_aL_b5_7_40 : aL ≠ b5_7_40 := Nat.ne_of_lt (Nat.lt_of_lt_of_le V_aL.lt sz_b5_7_40')
      have ne_aS_b5_7_40 : aS ≠ b5_7_40 := Nat.ne_of_lt (Nat.lt_of_lt_of_le V_aS.lt sz_b5_7_40')
      have ne_aP_b5_7_40 : aP ≠ b5_7_40 := Nat.ne_of_lt (Nat.lt_of_lt_of_le V_aP.lt sz_b5_7_40')
      replace E_o0 := E_o0.keep K40
      replace E_b1_6 := E_b1_6.keep K40
      replace F_modCount_b1_6 := F_modCount_b1_6.keep K40 nin0
      replace F_elementData_b1_6 := F_elementData_b1_6.keep K40 nin0
      replace F_size_b1_6 := F_size_b1_6.keep K40 nin0
      replace V_aH := V_aH.keep K40 nin0
      replace V_aR := V_aR.keep K40 nin0
      replace V_aL := V_aL.keep K40 nin0
      replace V_aS := V_aS.keep K40 nin0
      replace V_aP := V_aP.keep K40 nin0
      replace F_prices_o0 := F_prices_o0.keep K40 nin0
      replace F_sizes_o0 := F_sizes_o0.keep K40 nin0
      replace F_left_o0 := F_left_o0.keep K40 nin0
      replace F_right_o0 := F_right_o0.keep K40 nin0
      replace F_heights_o0 := F_heights_o0.keep K40 nin0
      replace F_root_o0 := F_root_o0.keep K40 nin0
      replace F_best_o0 := F_best_o0.keep K40 nin0
      replace F_unused_o0 := F_unused_o0.keep K40 nin0
      replace F_free_o0 := F_free_o0.keep K40 nin0
      replace F_count_o0 := F_count_o0.keep K40 nin0
      replace F_highestFirst_o0 := F_highestFirst_o0.keep K40 nin0
      replace OZ := OZ.keep K40 all0
      replace Z0 := Nat.le_trans Z0 K40.1
      have E_b1_40 := E_b1_40'
      have F_modCount_b1_40 := F_modCount_b1_40'
      have F_elementData_b1_40 := F_elementData_b1_40'
      have F_size_b1_40 := F_size_b1_40'
      have V_b3_4_40 := V_b3_4_40'
      have Ov_k3_4_40 := Ov_k3_4_40'
      have E_b5_4_7_40 := E_b5_4_7_40'
      have F_price_b5_4_7_40 := F_price_b5_4_7_40'
      have F_size_b5_4_7_40 := F_size_b5_4_7_40'
      have E_b5_7_40 := E_b5_7_40'
      have F_price_b5_7_40 := F_price_b5_7_40'
      have F_size_b5_7_40 := F_size_b5_7_40'
      have ne_b1_40_b3_4_40 := ne_b1_40_b3_4_40'
      have ne_b1_40_b5_4_7_40 := ne_b1_40_b5_4_7_40'
      have ne_b1_40_b5_7_40 := ne_b1_40_b5_7_40'
      have ne_b3_4_40_b5_4_7_40 := ne_b3_4_40_b5_4_7_40'
      have ne_b3_4_40_b5_7_40 := ne_b3_4_40_b5_7_40'
      have ne_b5_4_7_40_b5_7_40 := ne_b5_4_7_40_b5_7_40'
      show own_Go p e below _ (T40.setTop (mkF m 153 (lA5_ p0 q1 q2 q3 q4 q5 hi aa bb o0) [(.ref b1_40)]))
      refine own_by (B := T40.setTop (mkF m 243 (lA6_ p0 q1 q2 q3 q4 q5 hi aa bb o0 b1_40) [(.int hi)])) (fun t k => ?_) ?_
      · refine XS.astore X40.here hx rfl (hb hby at_153) rfl rfl (l' := (lA6_ p0 q1 q2 q3 q4 q5 hi aa bb o0 b1_40)) rfl ?_
        show Steps p.tables e below (T40.setTop (mkF m 155 (lA6_ p0 q1 q2 q3 q4 q5 hi aa bb o0 b1_40) [])) _
        refine XS.lload X40.here hx rfl (hb hby at_155) rfl ?_
        refine XS.lloadN X40.here hx rfl (hb hby at_157) rfl ?_
        refine XS.lcmp X40.here hx rfl (hb hby at_158) rfl ?_
        show Steps p.tables e below (T40.setTop (mkF m 159 (lA6_ p0 q1 q2 q3 q4 q5 hi aa bb o0 b1_40) [(.int (lcmpW q3 q2))])) _
        refine XS.ifYes X40.here hx rfl (pc0 := 159) (pc' := 241) rfl (hb hby at_159) rfl ((if0 _ _).trans (feq (fun q => (own_cne q2 q3 _ hc13) ((lw_eq _ _).mp q))).2) dE_ dE_ ?_
        show Steps p.tables e below (T40.setTop (mkF m 241 (lA6_ p0 q1 q2 q3 q4 q5 hi aa bb o0 b1_40) [])) _
        refine XS.iload X40.here hx rfl (hb hby at_241) rfl ?_
        exact k
      by_cases hc42 : hi = (0 : Int32)
      · skip
        refine own_by (fun t k => XS.ifYes X40.here hx rfl (pc0 := 243) (pc' := 255) rfl (hb hby at_243) rfl ((if0 _ _).trans (teq hc42).1) dE_ dE_ k) ?_
        show own_Go p e below _ (T40.setTop (mkF m 255 (lA6_ p0 q1 q2 q3 q4 q5 hi aa bb o0 b1_40) []))
        refine own_by (B := T40.setTop (mkF m 258 (lA6_ p0 q1 q2 q3 q4 q5 hi aa bb o0 b1_40) [(.long q2), (.long q3)])) (fun t k => ?_) ?_
        · refine XS.lload X40.here hx rfl (hb hby at_255) rfl ?_
          refine XS.lloadN X40.here hx rfl (hb hby at_257) rfl ?_
          exact k
        refine own_cc (own_callS X40 hx hZ (y := y3_) hown (hW hw 161 rfl) (hW hw 162 rfl) (hW hw 66 rfl) (hW hw 163 rfl) dE_ (rm24 l Z a0 hw [] q3 q2 T40.heap n0 Z0 ) (rfl : T40.heap = _) 0 dE_ dE_ dE_ dE_ rfl (by rw [hml]; rfl) [(.long q3), (.long q2)] [] rfl (lenOf pd_14 rfl) rfl (by show 2 * 0 + _ ≤ _; exact Nat.le_of_eq rfl) (hb hby at_258)) fun T44 L44 v44 X44 hQ44 => ?_
        obtain ⟨rfl, N44, e44⟩ := hQ44
        replace N0 := Fr.app N0 N44
        show own_Go p e below _ (T44.setTop (mkF m 261 (lA6_ p0 q1 q2 q3 q4 q5 hi aa bb o0 b1_40) [(.long (fmin q3 q2))]))
        refine own_by (B := T44.setTop (mkF m 315 (lA7_ p0 q1 q2 q3 q4 q5 hi aa bb o0 b1_40 (fmin q3 q2) q3 bb aa) [(.ref b1_40)])) (fun t k => ?_) ?_
        · refine XS.lstore X44.here hx rfl (hb hby at_261) rfl (l' := (lA8_ p0 q1 q2 q3 q4 q5 hi aa bb o0 b1_40 (fmin q3 q2))) rfl ?_
          show Steps p.tables e below (T44.setTop (mkF m 263 (lA8_ p0 q1 q2 q3 q4 q5 hi aa bb o0 b1_40 (fmin q3 q2)) [])) _
          refine XS.lload X44.here hx rfl (hb hby at_263) rfl ?_
          refine XS.lload X44.here hx rfl (hb hby at_265) rfl ?_
          refine XS.lcmp X44.here hx rfl (hb hby at_267) rfl ?_
          show Steps p.tables e below (T44.setTop (mkF m 268 (lA8_ p0 q1 q2 q3 q4 q5 hi aa bb o0 b1_40 (fmin q3 q2)) [(.int (lcmpW (fmin q3 q2) q3))])) _
          refine XS.ifYes X44.here hx rfl (pc0 := 268) (pc' := 275) rfl (hb hby at_268) rfl ((if0 _ _).trans (feq (fun q => (own_fmin_q3_f q2 q3 (own_lt1 q2 q3 hi hc13 hc36 hc42 hhi)) ((lw_eq _ _).mp q))).2) dE_ dE_ ?_
          show Steps p.tables e below (T44.setTop (mkF m 275 (lA8_ p0 q1 q2 q3 q4 q5 hi aa bb o0 b1_40 (fmin q3 q2)) [])) _
          refine XS.lload X44.here hx rfl (hb hby at_275) rfl ?_
          refine XS.lstore X44.here hx rfl (hb hby at_277) rfl (l' := (lA9_ p0 q1 q2 q3 q4 q5 hi aa bb o0 b1_40 (fmin q3 q2) q3)) rfl ?_
          show Steps p.tables e below (T44.setTop (mkF m 279 (lA9_ p0 q1 q2 q3 q4 q5 hi aa bb o0 b1_40 (fmin q3 q2) q3) [])) _
          refine XS.lload X44.here hx rfl (hb hby at_279) rfl ?_
          refine XS.lload X44.here hx rfl (hb hby at_281) rfl ?_
          refine XS.lcmp X44.here hx rfl (hb hby at_283) rfl ?_
          show Steps p.tables e below (T44.setTop (mkF m 284 (lA9_ p0 q1 q2 q3 q4 q5 hi aa bb o0 b1_40 (fmin q3 q2) q3) [(.int (lcmpW (fmin q3 q2) q3))])) _
          refine XS.ifYes X44.here hx rfl (pc0 := 284) (pc' := 292) rfl (hb hby at_284) rfl ((if0 _ _).trans (feq (fun q => (own_fmin_q3_f q2 q3 (own_lt1 q2 q3 hi hc13 hc36 hc42 hhi)) ((lw_eq _ _).mp q))).2) dE_ dE_ ?_
          show Steps p.tables e below (T44.setTop (mkF m 292 (lA9_ p0 q1 q2 q3 q4 q5 hi aa bb o0 b1_40 (fmin q3 q2) q3) [])) _
          refine XS.lload X44.here hx rfl (hb hby at_292) rfl ?_
          refine XS.lstore X44.here hx rfl (hb hby at_294) rfl (l' := (lA10_ p0 q1 q2 q3 q4 q5 hi aa bb o0 b1_40 (fmin q3 q2) q3 bb)) rfl ?_
          show Steps p.tables e below (T44.setTop (mkF m 296 (lA10_ p0 q1 q2 q3 q4 q5 hi aa bb o0 b1_40 (fmin q3 q2) q3 bb) [])) _
          refine XS.lload X44.here hx rfl (hb hby at_296) rfl ?_
          refine XS.lload X44.here hx rfl (hb hby at_298) rfl ?_
          refine XS.lcmp X44.here hx rfl (hb hby at_300) rfl ?_
          show Steps p.tables e below (T44.setTop (mkF m 301 (lA10_ p0 q1 q2 q3 q4 q5 hi aa bb o0 b1_40 (fmin q3 q2) q3 bb) [(.int (lcmpW (fmin q3 q2) q3))])) _
          refine XS.ifYes X44.here hx rfl (pc0 := 301) (pc' := 309) rfl (hb hby at_301) rfl ((if0 _ _).trans (feq (fun q => (own_fmin_q3_f q2 q3 (own_lt1 q2 q3 hi hc13 hc36 hc42 hhi)) ((lw_eq _ _).mp q))).2) dE_ dE_ ?_
          show Steps p.tables e below (T44.setTop (mkF m 309 (lA10_ p0 q1 q2 q3 q4 q5 hi aa bb o0 b1_40 (fmin q3 q2) q3 bb) [])) _
          refine XS.lload X44.here hx rfl (hb hby at_309) rfl ?_
          refine XS.lstore X44.here hx rfl (hb hby at_311) rfl (l' := (lA7_ p0 q1 q2 q3 q4 q5 hi aa bb o0 b1_40 (fmin q3 q2) q3 bb aa)) rfl ?_
          show Steps p.tables e below (T44.setTop (mkF m 313 (lA7_ p0 q1 q2 q3 q4 q5 hi aa bb o0 b1_40 (fmin q3 q2) q3 bb aa) [])) _
          refine XS.aload X44.here hx rfl (hb hby at_313) rfl rfl ?_
          exact k
        refine own_cc (own_callF X44 hx hZ (y := y29_) (z := y12_) hown (hW hw 116 rfl) (hW hw 117 rfl) (hW hw 118 rfl) (hW hw 119 rfl) (hW hw 120 rfl) (hW hw 121 rfl) (hW hw 122 rfl) (hW hw 123 rfl) (hW hw 90 rfl) (hW hw 124 rfl) dE_ (rm19_8 l Z a0 hw [] b1_40 (2 : Int32) T40.heap n0 Z0 F_size_b1_40) e44 0 dE_ dE_ dE_ dE_ rfl (by rw [hml]; rfl) b1_40 E_b1_40 [] [] rfl (lenOf pd_11 rfl) rfl (by show 2 * 0 + _ ≤ _; exact Nat.le_of_eq rfl) (hb hby at_315)) fun T46 L46 v46 X46 hQ46 => ?_
        obtain ⟨rfl, N46, e46⟩ := hQ46
        replace N0 := Fr.app N0 N46
        show own_Go p e below _ (T46.setTop (mkF m 320 (lA7_ p0 q1 q2 q3 q4 q5 hi aa bb o0 b1_40 (fmin q3 q2) q3 bb aa) [(.int (2 : Int32))]))
        refine own_by (B := T46.setTop (mkF m 327 (lA7_ p0 q1 q2 q3 q4 q5 hi aa bb o0 b1_40 (fmin q3 q2) q3 bb aa) [oZ, (.ref b1_40)])) (fun t k => ?_) ?_
        · refine XS.iconst X46.here hx rfl (hb hby at_320) ?_
          refine XS.icmpNo X46.here hx rfl (hb hby at_321) rfl (teq (by decide : (2 : Int32) = (2 : Int32))).2 ?_
          show Steps p.tables e below (T46.setTop (mkF m 324 (lA7_ p0 q1 q2 q3 q4 q5 hi aa bb o0 b1_40 (fmin q3 q2) q3 bb aa) [])) _
          refine XS.aload X46.here hx rfl (hb hby at_324) rfl rfl ?_
          refine XS.iconst X46.here hx rfl (hb hby at_326) ?_
          exact k
        refine own_cc (own_callF X46 hx hZ (y := y30_) (z := y24_) hown (hW hw 164 rfl) (hW hw 165 rfl) (hW hw 166 rfl) (hW hw 167 rfl) (hW hw 168 rfl) (hW hw 169 rfl) (hW hw 170 rfl) (hW hw 123 rfl) (hW hw 90 rfl) (hW hw 171 rfl) dE_ (rm25_44 l Z a0 hw [] b1_40 b3_4_40 b5_4_7_40 b5_7_40 (2 : Int32) k3_4_40 T40.heap n0 Z0 E_b1_40 F_elementData_b1_40 F_size_b1_40 V_b3_4_40 (by decide : (0 : Int32) < (2 : Int32))) e46 0 dE_ dE_ dE_ dE_ rfl (by rw [hml]; rfl) b1_40 E_b1_40 [oZ] [] rfl (lenOf pd_15 rfl) rfl (by show 2 * 0 + _ ≤ _; exact Nat.le_of_eq rfl) (hb hby at_327)) fun T48 L48 v48 X48 hQ48 => ?_
        obtain ⟨rfl, N48, e48⟩ := hQ48
        replace N0 := Fr.app N0 N48
        show own_Go p e below _ (T48.setTop (mkF m 332 (lA7_ p0 q1 q2 q3 q4 q5 hi aa bb o0 b1_40 (fmin q3 q2) q3 bb aa) [(.ref b5_4_7_40)]))
        refine own_c1 (castY X48 hx hZ hown (hW hw 185 rfl) e48 (Ins.self E_b5_4_7_40) rfl rfl (hb hby at_332)) fun T49 X49 e49 => ?_
        show own_Go p e below _ (T49.setTop (mkF m 335 (lA7_ p0 q1 q2 q3 q4 q5 hi aa bb o0 b1_40 (fmin q3 q2) q3 bb aa) [(.ref b5_4_7_40)]))
        refine own_cc (own_callV X49 hx hZ (y := y25_) (z := y25_) hown (hW hw 187 rfl) (hW hw 188 rfl) (notFace_of_selects (args := #[]) (mvT hZ (hW hw 190 rfl))) (hW hw 190 rfl) (hW hw 189 rfl) (hW hw 131 rfl) (hW hw 191 rfl) dE_ (rm29_25 l Z a0 hw [] b5_4_7_40 q2 T40.heap n0 Z0 F_price_b5_4_7_40) e49 0 dE_ dE_ dE_ dE_ rfl (by rw [hml]; rfl) b5_4_7_40 E_b5_4_7_40 [] [] rfl (lenOf pd_8 rfl) rfl (by show 2 * 0 + _ ≤ _; exact Nat.le_of_eq rfl) (hb hby at_335)) fun T51 L51 v51 X51 hQ51 => ?_
        obtain ⟨rfl, N51, e51⟩ := hQ51
        replace N0 := Fr.app N0 N51
        show own_Go p e below _ (T51.setTop (mkF m 338 (lA7_ p0 q1 q2 q3 q4 q5 hi aa bb o0 b1_40 (fmin q3 q2) q3 bb aa) [(.long q2)]))
        refine own_by (B := T51.setTop (mkF m 347 (lA7_ p0 q1 q2 q3 q4 q5 hi aa bb o0 b1_40 (fmin q3 q2) q3 bb aa) [oZ, (.ref b1_40)])) (fun t k => ?_) ?_
        · refine XS.lload X51.here hx rfl (hb hby at_338) rfl ?_
          refine XS.lcmp X51.here hx rfl (hb hby at_340) rfl ?_
          show Steps p.tables e below (T51.setTop (mkF m 341 (lA7_ p0 q1 q2 q3 q4 q5 hi aa bb o0 b1_40 (fmin q3 q2) q3 bb aa) [(.int (lcmpW q2 (fmin q3 q2)))])) _
          refine XS.ifNo X51.here hx rfl (hb hby at_341) rfl ((if0 _ _).trans (teq ((lw_eq _ _).mpr (Eq.symm (own_fmin_q2_t q2 q3 (own_lt1 q2 q3 hi hc13 hc36 hc42 hhi))))).2) ?_
          show Steps p.tables e below (T51.setTop (mkF m 344 (lA7_ p0 q1 q2 q3 q4 q5 hi aa bb o0 b1_40 (fmin q3 q2) q3 bb aa) [])) _
          refine XS.aload X51.here hx rfl (hb hby at_344) rfl rfl ?_
          refine XS.iconst X51.here hx rfl (hb hby at_346) ?_
          exact k
        refine own_cc (own_callF X51 hx hZ (y := y30_) (z := y24_) hown (hW hw 164 rfl) (hW hw 165 rfl) (hW hw 166 rfl) (hW hw 167 rfl) (hW hw 168 rfl) (hW hw 169 rfl) (hW hw 170 rfl) (hW hw 123 rfl) (hW hw 90 rfl) (hW hw 171 rfl) dE_ (rm25_44 l Z a0 hw [] b1_40 b3_4_40 b5_4_7_40 b5_7_40 (2 : Int32) k3_4_40 T40.heap n0 Z0 E_b1_40 F_elementData_b1_40 F_size_b1_40 V_b3_4_40 (by decide : (0 : Int32) < (2 : Int32))) e51 0 dE_ dE_ dE_ dE_ rfl (by rw [hml]; rfl) b1_40 E_b1_40 [oZ] [] rfl (lenOf pd_15 rfl) rfl (by show 2 * 0 + _ ≤ _; exact Nat.le_of_eq rfl) (hb hby at_347)) fun T53 L53 v53 X53 hQ53 => ?_
        obtain ⟨rfl, N53, e53⟩ := hQ53
        replace N0 := Fr.app N0 N53
        show own_Go p e below _ (T53.setTop (mkF m 352 (lA7_ p0 q1 q2 q3 q4 q5 hi aa bb o0 b1_40 (fmin q3 q2) q3 bb aa) [(.ref b5_4_7_40)]))
        refine own_c1 (castY X53 hx hZ hown (hW hw 185 rfl) e53 (Ins.self E_b5_4_7_40) rfl rfl (hb hby at_352)) fun T54 X54 e54 => ?_
        show own_Go p e below _ (T54.setTop (mkF m 355 (lA7_ p0 q1 q2 q3 q4 q5 hi aa bb o0 b1_40 (fmin q3 q2) q3 bb aa) [(.ref b5_4_7_40)]))
        refine own_cc (own_callV X54 hx hZ (y := y26_) (z := y26_) hown (hW hw 192 rfl) (hW hw 193 rfl) (notFace_of_selects (args := #[]) (mvT hZ (hW hw 195 rfl))) (hW hw 195 rfl) (hW hw 194 rfl) (hW hw 131 rfl) (hW hw 196 rfl) dE_ (rm30_26 l Z a0 hw [] b5_4_7_40 bb T40.heap n0 Z0 F_size_b5_4_7_40) e54 0 dE_ dE_ dE_ dE_ rfl (by rw [hml]; rfl) b5_4_7_40 E_b5_4_7_40 [] [] rfl (lenOf pd_8 rfl) rfl (by show 2 * 0 + _ ≤ _; exact Nat.le_of_eq rfl) (hb hby at_355)) fun T56 L56 v56 X56 hQ56 => ?_
        obtain ⟨rfl, N56, e56⟩ := hQ56
        replace N0 := Fr.app N0 N56
        show own_Go p e below _ (T56.setTop (mkF m 358 (lA7_ p0 q1 q2 q3 q4 q5 hi aa bb o0 b1_40 (fmin q3 q2) q3 bb aa) [(.long bb)]))
        refine own_by (B := T56.setTop (mkF m 367 (lA7_ p0 q1 q2 q3 q4 q5 hi aa bb o0 b1_40 (fmin q3 q2) q3 bb aa) [(.int (1 : Int32)), (.ref b1_40)])) (fun t k => ?_) ?_
        · refine XS.lload X56.here hx rfl (hb hby at_358) rfl ?_
          refine XS.lcmp X56.here hx rfl (hb hby at_360) rfl ?_
          show Steps p.tables e below (T56.setTop (mkF m 361 (lA7_ p0 q1 q2 q3 q4 q5 hi aa bb o0 b1_40 (fmin q3 q2) q3 bb aa) [(.int (lcmpW bb bb))])) _
          refine XS.ifNo X56.here hx rfl (hb hby at_361) rfl ((if0 _ _).trans (teq ((lw_eq _ _).mpr (rfl : bb = bb))).2) ?_
          show Steps p.tables e below (T56.setTop (mkF m 364 (lA7_ p0 q1 q2 q3 q4 q5 hi aa bb o0 b1_40 (fmin q3 q2) q3 bb aa) [])) _
          refine XS.aload X56.here hx rfl (hb hby at_364) rfl rfl ?_
          refine XS.iconst X56.here hx rfl (hb hby at_366) ?_
          exact k
        refine own_cc (own_callF X56 hx hZ (y := y30_) (z := y24_) hown (hW hw 164 rfl) (hW hw 165 rfl) (hW hw 166 rfl) (hW hw 167 rfl) (hW hw 168 rfl) (hW hw 169 rfl) (hW hw 170 rfl) (hW hw 123 rfl) (hW hw 90 rfl) (hW hw 171 rfl) dE_ (rm25_46 l Z a0 hw [] b1_40 b3_4_40 b5_4_7_40 b5_7_40 (2 : Int32) k3_4_40 T40.heap n0 Z0 E_b1_40 F_elementData_b1_40 F_size_b1_40 V_b3_4_40 (by decide : (1 : Int32) < (2 : Int32))) e56 0 dE_ dE_ dE_ dE_ rfl (by rw [hml]; rfl) b1_40 E_b1_40 [(.int (1 : Int32))] [] rfl (lenOf pd_15 rfl) rfl (by show 2 * 0 + _ ≤ _; exact Nat.le_of_eq rfl) (hb hby at_367)) fun T58 L58 v58 X58 hQ58 => ?_
        obtain ⟨rfl, N58, e58⟩ := hQ58
        replace N0 := Fr.app N0 N58
        show own_Go p e below _ (T58.setTop (mkF m 372 (lA7_ p0 q1 q2 q3 q4 q5 hi aa bb o0 b1_40 (fmin q3 q2) q3 bb aa) [(.ref b5_7_40)]))
        refine own_c1 (castY X58 hx hZ hown (hW hw 185 rfl) e58 (Ins.self E_b5_7_40) rfl rfl (hb hby at_372)) fun T59 X59 e59 => ?_
        show own_Go p e below _ (T59.setTop (mkF m 375 (lA7_ p0 q1 q2 q3 q4 q5 hi aa bb o0 b1_40 (fmin q3 q2) q3 bb aa) [(.ref b5_7_40)]))
        refine own_cc (own_callV X59 hx hZ (y := y25_) (z := y25_) hown (hW hw 187 rfl) (hW hw 188 rfl) (notFace_of_selects (args := #[]) (mvT hZ (hW hw 190 rfl))) (hW hw 190 rfl) (hW hw 189 rfl) (hW hw 131 rfl) (hW hw 191 rfl) dE_ (rm29_25 l Z a0 hw [] b5_7_40 q3 T40.heap n0 Z0 F_price_b5_7_40) e59 0 dE_ dE_ dE_ dE_ rfl (by rw [hml]; rfl) b5_7_40 E_b5_7_40 [] [] rfl (lenOf pd_8 rfl) rfl (by show 2 * 0 + _ ≤ _; exact Nat.le_of_eq rfl) (hb hby at_375)) fun T61 L61 v61 X61 hQ61 => ?_
        obtain ⟨rfl, N61, e61⟩ := hQ61
        replace N0 := Fr.app N0 N61
        show own_Go p e below _ (T61.setTop (mkF m 378 (lA7_ p0 q1 q2 q3 q4 q5 hi aa bb o0 b1_40 (fmin q3 q2) q3 bb aa) [(.long q3)]))
        refine own_by (B := T61.setTop (mkF m 387 (lA7_ p0 q1 q2 q3 q4 q5 hi aa bb o0 b1_40 (fmin q3 q2) q3 bb aa) [(.int (1 : Int32)), (.ref b1_40)])) (fun t k => ?_) ?_
        · refine XS.lload X61.here hx rfl (hb hby at_378) rfl ?_
          refine XS.lcmp X61.here hx rfl (hb hby at_380) rfl ?_
          show Steps p.tables e below (T61.setTop (mkF m 381 (lA7_ p0 q1 q2 q3 q4 q5 hi aa bb o0 b1_40 (fmin q3 q2) q3 bb aa) [(.int (lcmpW q3 q3))])) _
          refine XS.ifNo X61.here hx rfl (hb hby at_381) rfl ((if0 _ _).trans (teq ((lw_eq _ _).mpr (rfl : q3 = q3))).2) ?_
          show Steps p.tables e below (T61.setTop (mkF m 384 (lA7_ p0 q1 q2 q3 q4 q5 hi aa bb o0 b1_40 (fmin q3 q2) q3 bb aa) [])) _
          refine XS.aload X61.here hx rfl (hb hby at_384) rfl rfl ?_
          refine XS.iconst X61.here hx rfl (hb hby at_386) ?_
          exact k
        refine own_cc (own_callF X61 hx hZ (y := y30_) (z := y24_) hown (hW hw 164 rfl) (hW hw 165 rfl) (hW hw 166 rfl) (hW hw 167 rfl) (hW hw 168 rfl) (hW hw 169 rfl) (hW hw 170 rfl) (hW hw 123 rfl) (hW hw 90 rfl) (hW hw 171 rfl) dE_ (rm25_46 l Z a0 hw [] b1_40 b3_4_40 b5_4_7_40 b5_7_40 (2 : Int32) k3_4_40 T40.heap n0 Z0 E_b1_40 F_elementData_b1_40 F_size_b1_40 V_b3_4_40 (by decide : (1 : Int32) < (2 : Int32))) e61 0 dE_ dE_ dE_ dE_ rfl (by rw [hml]; rfl) b1_40 E_b1_40 [(.int (1 : Int32))] [] rfl (lenOf pd_15 rfl) rfl (by show 2 * 0 + _ ≤ _; exact Nat.le_of_eq rfl) (hb hby at_387)) fun T63 L63 v63 X63 hQ63 => ?_
        obtain ⟨rfl, N63, e63⟩ := hQ63
        replace N0 := Fr.app N0 N63
        show own_Go p e below _ (T63.setTop (mkF m 392 (lA7_ p0 q1 q2 q3 q4 q5 hi aa bb o0 b1_40 (fmin q3 q2) q3 bb aa) [(.ref b5_7_40)]))
        refine own_c1 (castY X63 hx hZ hown (hW hw 185 rfl) e63 (Ins.self E_b5_7_40) rfl rfl (hb hby at_392)) fun T64 X64 e64 => ?_
        show own_Go p e below _ (T64.setTop (mkF m 395 (lA7_ p0 q1 q2 q3 q4 q5 hi aa bb o0 b1_40 (fmin q3 q2) q3 bb aa) [(.ref b5_7_40)]))
        refine own_cc (own_callV X64 hx hZ (y := y26_) (z := y26_) hown (hW hw 192 rfl) (hW hw 193 rfl) (notFace_of_selects (args := #[]) (mvT hZ (hW hw 195 rfl))) (hW hw 195 rfl) (hW hw 194 rfl) (hW hw 131 rfl) (hW hw 196 rfl) dE_ (rm30_26 l Z a0 hw [] b5_7_40 aa T40.heap n0 Z0 F_size_b5_7_40) e64 0 dE_ dE_ dE_ dE_ rfl (by rw [hml]; rfl) b5_7_40 E_b5_7_40 [] [] rfl (lenOf pd_8 rfl) rfl (by show 2 * 0 + _ ≤ _; exact Nat.le_of_eq rfl) (hb hby at_395)) fun T66 L66 v66 X66 hQ66 => ?_
        obtain ⟨rfl, N66, e66⟩ := hQ66
        replace N0 := Fr.app N0 N66
        show own_Go p e below _ (T66.setTop (mkF m 398 (lA7_ p0 q1 q2 q3 q4 q5 hi aa bb o0 b1_40 (fmin q3 q2) q3 bb aa) [(.long aa)]))
        refine own_by (B := T66.setTop (mkF m 406 (lA7_ p0 q1 q2 q3 q4 q5 hi aa bb o0 b1_40 (fmin q3 q2) q3 bb aa) [(.ref o0)])) (fun t k => ?_) ?_
        · refine XS.lload X66.here hx rfl (hb hby at_398) rfl ?_
          refine XS.lcmp X66.here hx rfl (hb hby at_400) rfl ?_
          show Steps p.tables e below (T66.setTop (mkF m 401 (lA7_ p0 q1 q2 q3 q4 q5 hi aa bb o0 b1_40 (fmin q3 q2) q3 bb aa) [(.int (lcmpW aa aa))])) _
          refine XS.ifNo X66.here hx rfl (hb hby at_401) rfl ((if0 _ _).trans (teq ((lw_eq _ _).mpr (rfl : aa = aa))).2) ?_
          show Steps p.tables e below (T66.setTop (mkF m 404 (lA7_ p0 q1 q2 q3 q4 q5 hi aa bb o0 b1_40 (fmin q3 q2) q3 bb aa) [])) _
          refine XS.aload X66.here hx rfl (hb hby at_404) rfl rfl ?_
          exact k
        refine own_cc (own_callV X66 hx hZ (y := y5_) (z := y5_) hown (hW hw 73 rfl) (hW hw 74 rfl) (notFace_of_selects (args := #[]) (mvT hZ (hW hw 76 rfl))) (hW hw 76 rfl) (hW hw 75 rfl) (hW hw 3 rfl) (hW hw 77 rfl) dE_ (rm12_47 l Z a0 hw [] o0 aP kP (0 : Int64) q3 q2 T40.heap n0 Z0 F_prices_o0 F_best_o0 V_aP) e66 0 dE_ dE_ dE_ dE_ rfl (by rw [hml]; rfl) o0 E_o0 [] [] rfl (lenOf pd_8 rfl) rfl (by show 2 * 0 + _ ≤ _; exact Nat.le_of_eq rfl) (hb hby at_406)) fun T68 L68 v68 X68 hQ68 => ?_
        obtain ⟨rfl, N68, e68⟩ := hQ68
        replace N0 := Fr.app N0 N68
        show own_Go p e below _ (T68.setTop (mkF m 409 (lA7_ p0 q1 q2 q3 q4 q5 hi aa bb o0 b1_40 (fmin q3 q2) q3 bb aa) [(.long q2)]))
        refine own_by (B := T68.setTop (mkF m 417 (lA7_ p0 q1 q2 q3 q4 q5 hi aa bb o0 b1_40 (fmin q3 q2) q3 bb aa) [(.ref o0)])) (fun t k => ?_) ?_
        · refine XS.lload X68.here hx rfl (hb hby at_409) rfl ?_
          refine XS.lcmp X68.here hx rfl (hb hby at_411) rfl ?_
          show Steps p.tables e below (T68.setTop (mkF m 412 (lA7_ p0 q1 q2 q3 q4 q5 hi aa bb o0 b1_40 (fmin q3 q2) q3 bb aa) [(.int (lcmpW q2 (fmin q3 q2)))])) _
          refine XS.ifNo X68.here hx rfl (hb hby at_412) rfl ((if0 _ _).trans (teq ((lw_eq _ _).mpr (Eq.symm (own_fmin_q2_t q2 q3 (own_lt1 q2 q3 hi hc13 hc36 hc42 hhi))))).2) ?_
          show Steps p.tables e below (T68.setTop (mkF m 415 (lA7_ p0 q1 q2 q3 q4 q5 hi aa bb o0 b1_40 (fmin q3 q2) q3 bb aa) [])) _
          refine XS.aload X68.here hx rfl (hb hby at_415) rfl rfl ?_
          exact k
        refine own_cc (own_callV X68 hx hZ (y := y6_) (z := y6_) hown (hW hw 78 rfl) (hW hw 79 rfl) (notFace_of_selects (args := #[]) (mvT hZ (hW hw 81 rfl))) (hW hw 81 rfl) (hW hw 80 rfl) (hW hw 3 rfl) (hW hw 82 rfl) dE_ (rm13_48 l Z a0 hw [] o0 aS kS (0 : Int64) aa bb T40.heap n0 Z0 F_sizes_o0 F_best_o0 V_aS) e68 0 dE_ dE_ dE_ dE_ rfl (by rw [hml]; rfl) o0 E_o0 [] [] rfl (lenOf pd_8 rfl) rfl (by show 2 * 0 + _ ≤ _; exact Nat.le_of_eq rfl) (hb hby at_417)) fun T70 L70 v70 X70 hQ70 => ?_
        obtain ⟨rfl, N70, e70⟩ := hQ70
        replace N0 := Fr.app N0 N70
        show own_Go p e below _ (T70.setTop (mkF m 420 (lA7_ p0 q1 q2 q3 q4 q5 hi aa bb o0 b1_40 (fmin q3 q2) q3 bb aa) [(.long bb)]))
        refine own_by (B := T70.setTop (mkF m 431 (lA7_ p0 q1 q2 q3 q4 q5 hi aa bb o0 b1_40 (fmin q3 q2) q3 bb aa) [(.int (1 : Int32))])) (fun t k => ?_) ?_
        · refine XS.lload X70.here hx rfl (hb hby at_420) rfl ?_
          refine XS.lcmp X70.here hx rfl (hb hby at_422) rfl ?_
          show Steps p.tables e below (T70.setTop (mkF m 423 (lA7_ p0 q1 q2 q3 q4 q5 hi aa bb o0 b1_40 (fmin q3 q2) q3 bb aa) [(.int (lcmpW bb bb))])) _
          refine XS.ifNo X70.here hx rfl (hb hby at_423) rfl ((if0 _ _).trans (teq ((lw_eq _ _).mpr (rfl : bb = bb))).2) ?_
          show Steps p.tables e below (T70.setTop (mkF m 426 (lA7_ p0 q1 q2 q3 q4 q5 hi aa bb o0 b1_40 (fmin q3 q2) q3 bb aa) [])) _
          refine XS.iconst X70.here hx rfl (hb hby at_426) ?_
          refine XS.goto X70.here hx rfl (pc0 := 427) (pc' := 431) rfl (hb hby at_427) dE_ dE_ ?_
          show Steps p.tables e below (T70.setTop (mkF m 431 (lA7_ p0 q1 q2 q3 q4 q5 hi aa bb o0 b1_40 (fmin q3 q2) q3 bb aa) [(.int (1 : Int32))])) _
          exact k
        exact own_retN X70 Blk hx (t := .boolean) Bret (by simp) (hb hby at_431) (by
            try rw [show T70.heap = T40.heap from e70]
            exact ⟨rfl, N0⟩) dE_ dE_
      · skip
        refine own_by (fun t k => XS.ifNo X40.here hx rfl (hb hby at_243) rfl ((if0 _ _).trans (feq hc42).1) k) ?_
        show own_Go p e below _ (T40.setTop (mkF m 246 (lA6_ p0 q1 q2 q3 q4 q5 hi aa bb o0 b1_40) []))
        refine own_by (B := T40.setTop (mkF m 249 (lA6_ p0 q1 q2 q3 q4 q5 hi aa bb o0 b1_40) [(.long q2), (.long q3)])) (fun t k => ?_) ?_
        · refine XS.lload X40.here hx rfl (hb hby at_246) rfl ?_
          refine XS.lloadN X40.here hx rfl (hb hby at_248) rfl ?_
          exact k
        refine own_cc (own_callS X40 hx hZ (y := y2_) hown (hW hw 205 rfl) (hW hw 206 rfl) (hW hw 66 rfl) (hW hw 207 rfl) dE_ (rm33 l Z a0 hw [] q3 q2 T40.heap n0 Z0 ) (rfl : T40.heap = _) 0 dE_ dE_ dE_ dE_ rfl (by rw [hml]; rfl) [(.long q3), (.long q2)] [] rfl (lenOf pd_14 rfl) rfl (by show 2 * 0 + _ ≤ _; exact Nat.le_of_eq rfl) (hb hby at_249)) fun T72 L72 v72 X72 hQ72 => ?_
        obtain ⟨rfl, N72, e72⟩ := hQ72
        replace N0 := Fr.app N0 N72
        show own_Go p e below _ (T72.setTop (mkF m 252 (lA6_ p0 q1 q2 q3 q4 q5 hi aa bb o0 b1_40) [(.long (fmax q3 q2))]))
        refine own_by (B := T72.setTop (mkF m 315 (lA7_ p0 q1 q2 q3 q4 q5 hi aa bb o0 b1_40 (fmax q3 q2) q3 bb aa) [(.ref b1_40)])) (fun t k => ?_) ?_
        · refine XS.goto X72.here hx rfl (pc0 := 252) (pc' := 261) rfl (hb hby at_252) dE_ dE_ ?_
          show Steps p.tables e below (T72.setTop (mkF m 261 (lA6_ p0 q1 q2 q3 q4 q5 hi aa bb o0 b1_40) [(.long (fmax q3 q2))])) _
          refine XS.lstore X72.here hx rfl (hb hby at_261) rfl (l' := (lA8_ p0 q1 q2 q3 q4 q5 hi aa bb o0 b1_40 (fmax q3 q2))) rfl ?_
          show Steps p.tables e below (T72.setTop (mkF m 263 (lA8_ p0 q1 q2 q3 q4 q5 hi aa bb o0 b1_40 (fmax q3 q2)) [])) _
          refine XS.lload X72.here hx rfl (hb hby at_263) rfl ?_
          refine XS.lload X72.here hx rfl (hb hby at_265) rfl ?_
          refine XS.lcmp X72.here hx rfl (hb hby at_267) rfl ?_
          show Steps p.tables e below (T72.setTop (mkF m 268 (lA8_ p0 q1 q2 q3 q4 q5 hi aa bb o0 b1_40 (fmax q3 q2)) [(.int (lcmpW (fmax q3 q2) q3))])) _
          refine XS.ifYes X72.here hx rfl (pc0 := 268) (pc' := 275) rfl (hb hby at_268) rfl ((if0 _ _).trans (feq (fun q => (own_fmax_q3_f q2 q3 (own_lt3 q2 q3 hi hc13 hc36 hc42 hhi)) ((lw_eq _ _).mp q))).2) dE_ dE_ ?_
          show Steps p.tables e below (T72.setTop (mkF m 275 (lA8_ p0 q1 q2 q3 q4 q5 hi aa bb o0 b1_40 (fmax q3 q2)) [])) _
          refine XS.lload X72.here hx rfl (hb hby at_275) rfl ?_
          refine XS.lstore X72.here hx rfl (hb hby at_277) rfl (l' := (lA9_ p0 q1 q2 q3 q4 q5 hi aa bb o0 b1_40 (fmax q3 q2) q3)) rfl ?_
          show Steps p.tables e below (T72.setTop (mkF m 279 (lA9_ p0 q1 q2 q3 q4 q5 hi aa bb o0 b1_40 (fmax q3 q2) q3) [])) _
          refine XS.lload X72.here hx rfl (hb hby at_279) rfl ?_
          refine XS.lload X72.here hx rfl (hb hby at_281) rfl ?_
          refine XS.lcmp X72.here hx rfl (hb hby at_283) rfl ?_
          show Steps p.tables e below (T72.setTop (mkF m 284 (lA9_ p0 q1 q2 q3 q4 q5 hi aa bb o0 b1_40 (fmax q3 q2) q3) [(.int (lcmpW (fmax q3 q2) q3))])) _
          refine XS.ifYes X72.here hx rfl (pc0 := 284) (pc' := 292) rfl (hb hby at_284) rfl ((if0 _ _).trans (feq (fun q => (own_fmax_q3_f q2 q3 (own_lt3 q2 q3 hi hc13 hc36 hc42 hhi)) ((lw_eq _ _).mp q))).2) dE_ dE_ ?_
          show Steps p.tables e below (T72.setTop (mkF m 292 (lA9_ p0 q1 q2 q3 q4 q5 hi aa bb o0 b1_40 (fmax q3 q2) q3) [])) _
          refine XS.lload X72.here hx rfl (hb hby at_292) rfl ?_
          refine XS.lstore X72.here hx rfl (hb hby at_294) rfl (l' := (lA10_ p0 q1 q2 q3 q4 q5 hi aa bb o0 b1_40 (fmax q3 q2) q3 bb)) rfl ?_
          show Steps p.tables e below (T72.setTop (mkF m 296 (lA10_ p0 q1 q2 q3 q4 q5 hi aa bb o0 b1_40 (fmax q3 q2) q3 bb) [])) _
          refine XS.lload X72.here hx rfl (hb hby at_296) rfl ?_
          refine XS.lload X72.here hx rfl (hb hby at_298) rfl ?_
          refine XS.lcmp X72.here hx rfl (hb hby at_300) rfl ?_
          show Steps p.tables e below (T72.setTop (mkF m 301 (lA10_ p0 q1 q2 q3 q4 q5 hi aa bb o0 b1_40 (fmax q3 q2) q3 bb) [(.int (lcmpW (fmax q3 q2) q3))])) _
          refine XS.ifYes X72.here hx rfl (pc0 := 301) (pc' := 309) rfl (hb hby at_301) rfl ((if0 _ _).trans (feq (fun q => (own_fmax_q3_f q2 q3 (own_lt3 q2 q3 hi hc13 hc36 hc42 hhi)) ((lw_eq _ _).mp q))).2) dE_ dE_ ?_
          show Steps p.tables e below (T72.setTop (mkF m 309 (lA10_ p0 q1 q2 q3 q4 q5 hi aa bb o0 b1_40 (fmax q3 q2) q3 bb) [])) _
          refine XS.lload X72.here hx rfl (hb hby at_309) rfl ?_
          refine XS.lstore X72.here hx rfl (hb hby at_311) rfl (l' := (lA7_ p0 q1 q2 q3 q4 q5 hi aa bb o0 b1_40 (fmax q3 q2) q3 bb aa)) rfl ?_
          show Steps p.tables e below (T72.setTop (mkF m 313 (lA7_ p0 q1 q2 q3 q4 q5 hi aa bb o0 b1_40 (fmax q3 q2) q3 bb aa) [])) _
          refine XS.aload X72.here hx rfl (hb hby at_313) rfl rfl ?_
          exact k
        refine own_cc (own_callF X72 hx hZ (y := y29_) (z := y12_) hown (hW hw 116 rfl) (hW hw 117 rfl) (hW hw 118 rfl) (hW hw 119 rfl) (hW hw 120 rfl) (hW hw 121 rfl) (hW hw 122 rfl) (hW hw 123 rfl) (hW hw 90 rfl) (hW hw 124 rfl) dE_ (rm19_8 l Z a0 hw [] b1_40 (2 : Int32) T40.heap n0 Z0 F_size_b1_40) e72 0 dE_ dE_ dE_ dE_ rfl (by rw [hml]; rfl) b1_40 E_b1_40 [] [] rfl (lenOf pd_11 rfl) rfl (by show 2 * 0 + _ ≤ _; exact Nat.le_of_eq rfl) (hb hby at_315)) fun T74 L74 v74 X74 hQ74 => ?_
        obtain ⟨rfl, N74, e74⟩ := hQ74
        replace N0 := Fr.app N0 N74
        show own_Go p e below _ (T74.setTop (mkF m 320 (lA7_ p0 q1 q2 q3 q4 q5 hi aa bb o0 b1_40 (fmax q3 q2) q3 bb aa) [(.int (2 : Int32))]))
        refine own_by (B := T74.setTop (mkF m 327 (lA7_ p0 q1 q2 q3 q4 q5 hi aa bb o0 b1_40 (fmax q3 q2) q3 bb aa) [oZ, (.ref b1_40)])) (fun t k => ?_) ?_
        · refine XS.iconst X74.here hx rfl (hb hby at_320) ?_
          refine XS.icmpNo X74.here hx rfl (hb hby at_321) rfl (teq (by decide : (2 : Int32) = (2 : Int32))).2 ?_
          show Steps p.tables e below (T74.setTop (mkF m 324 (lA7_ p0 q1 q2 q3 q4 q5 hi aa bb o0 b1_40 (fmax q3 q2) q3 bb aa) [])) _
          refine XS.aload X74.here hx rfl (hb hby at_324) rfl rfl ?_
          refine XS.iconst X74.here hx rfl (hb hby at_326) ?_
          exact k
        refine own_cc (own_callF X74 hx hZ (y := y30_) (z := y24_) hown (hW hw 164 rfl) (hW hw 165 rfl) (hW hw 166 rfl) (hW hw 167 rfl) (hW hw 168 rfl) (hW hw 169 rfl) (hW hw 170 rfl) (hW hw 123 rfl) (hW hw 90 rfl) (hW hw 171 rfl) dE_ (rm25_44 l Z a0 hw [] b1_40 b3_4_40 b5_4_7_40 b5_7_40 (2 : Int32) k3_4_40 T40.heap n0 Z0 E_b1_40 F_elementData_b1_40 F_size_b1_40 V_b3_4_40 (by decide : (0 : Int32) < (2 : Int32))) e74 0 dE_ dE_ dE_ dE_ rfl (by rw [hml]; rfl) b1_40 E_b1_40 [oZ] [] rfl (lenOf pd_15 rfl) rfl (by show 2 * 0 + _ ≤ _; exact Nat.le_of_eq rfl) (hb hby at_327)) fun T76 L76 v76 X76 hQ76 => ?_
        obtain ⟨rfl, N76, e76⟩ := hQ76
        replace N0 := Fr.app N0 N76
        show own_Go p e below _ (T76.setTop (mkF m 332 (lA7_ p0 q1 q2 q3 q4 q5 hi aa bb o0 b1_40 (fmax q3 q2) q3 bb aa) [(.ref b5_4_7_40)]))
        refine own_c1 (castY X76 hx hZ hown (hW hw 185 rfl) e76 (Ins.self E_b5_4_7_40) rfl rfl (hb hby at_332)) fun T77 X77 e77 => ?_
        show own_Go p e below _ (T77.setTop (mkF m 335 (lA7_ p0 q1 q2 q3 q4 q5 hi aa bb o0 b1_40 (fmax q3 q2) q3 bb aa) [(.ref b5_4_7_40)]))
        refine own_cc (own_callV X77 hx hZ (y := y25_) (z := y25_) hown (hW hw 187 rfl) (hW hw 188 rfl) (notFace_of_selects (args := #[]) (mvT hZ (hW hw 190 rfl))) (hW hw 190 rfl) (hW hw 189 rfl) (hW hw 131 rfl) (hW hw 191 rfl) dE_ (rm29_25 l Z a0 hw [] b5_4_7_40 q2 T40.heap n0 Z0 F_price_b5_4_7_40) e77 0 dE_ dE_ dE_ dE_ rfl (by rw [hml]; rfl) b5_4_7_40 E_b5_4_7_40 [] [] rfl (lenOf pd_8 rfl) rfl (by show 2 * 0 + _ ≤ _; exact Nat.le_of_eq rfl) (hb hby at_335)) fun T79 L79 v79 X79 hQ79 => ?_
        obtain ⟨rfl, N79, e79⟩ := hQ79
        replace N0 := Fr.app N0 N79
        show own_Go p e below _ (T79.setTop (mkF m 338 (lA7_ p0 q1 q2 q3 q4 q5 hi aa bb o0 b1_40 (fmax q3 q2) q3 bb aa) [(.long q2)]))
        refine own_by (B := T79.setTop (mkF m 347 (lA7_ p0 q1 q2 q3 q4 q5 hi aa bb o0 b1_40 (fmax q3 q2) q3 bb aa) [oZ, (.ref b1_40)])) (fun t k => ?_) ?_
        · refine XS.lload X79.here hx rfl (hb hby at_338) rfl ?_
          refine XS.lcmp X79.here hx rfl (hb hby at_340) rfl ?_
          show Steps p.tables e below (T79.setTop (mkF m 341 (lA7_ p0 q1 q2 q3 q4 q5 hi aa bb o0 b1_40 (fmax q3 q2) q3 bb aa) [(.int (lcmpW q2 (fmax q3 q2)))])) _
          refine XS.ifNo X79.here hx rfl (hb hby at_341) rfl ((if0 _ _).trans (teq ((lw_eq _ _).mpr (Eq.symm (own_fmax_q2_t q2 q3 (own_lt3 q2 q3 hi hc13 hc36 hc42 hhi))))).2) ?_
          show Steps p.tables e below (T79.setTop (mkF m 344 (lA7_ p0 q1 q2 q3 q4 q5 hi aa bb o0 b1_40 (fmax q3 q2) q3 bb aa) [])) _
          refine XS.aload X79.here hx rfl (hb hby at_344) rfl rfl ?_
          refine XS.iconst X79.here hx rfl (hb hby at_346) ?_
          exact k
        refine own_cc (own_callF X79 hx hZ (y := y30_) (z := y24_) hown (hW hw 164 rfl) (hW hw 165 rfl) (hW hw 166 rfl) (hW hw 167 rfl) (hW hw 168 rfl) (hW hw 169 rfl) (hW hw 170 rfl) (hW hw 123 rfl) (hW hw 90 rfl) (hW hw 171 rfl) dE_ (rm25_44 l Z a0 hw [] b1_40 b3_4_40 b5_4_7_40 b5_7_40 (2 : Int32) k3_4_40 T40.heap n0 Z0 E_b1_40 F_elementData_b1_40 F_size_b1_40 V_b3_4_40 (by decide : (0 : Int32) < (2 : Int32))) e79 0 dE_ dE_ dE_ dE_ rfl (by rw [hml]; rfl) b1_40 E_b1_40 [oZ] [] rfl (lenOf pd_15 rfl) rfl (by show 2 * 0 + _ ≤ _; exact Nat.le_of_eq rfl) (hb hby at_347)) fun T81 L81 v81 X81 hQ81 => ?_
        obtain ⟨rfl, N81, e81⟩ := hQ81
        replace N0 := Fr.app N0 N81
        show own_Go p e below _ (T81.setTop (mkF m 352 (lA7_ p0 q1 q2 q3 q4 q5 hi aa bb o0 b1_40 (fmax q3 q2) q3 bb aa) [(.ref b5_4_7_40)]))
        refine own_c1 (castY X81 hx hZ hown (hW hw 185 rfl) e81 (Ins.self E_b5_4_7_40) rfl rfl (hb hby at_352)) fun T82 X82 e82 => ?_
        show own_Go p e below _ (T82.setTop (mkF m 355 (lA7_ p0 q1 q2 q3 q4 q5 hi aa bb o0 b1_40 (fmax q3 q2) q3 bb aa) [(.ref b5_4_7_40)]))
        refine own_cc (own_callV X82 hx hZ (y := y26_) (z := y26_) hown (hW hw 192 rfl) (hW hw 193 rfl) (notFace_of_selects (args := #[]) (mvT hZ (hW hw 195 rfl))) (hW hw 195 rfl) (hW hw 194 rfl) (hW hw 131 rfl) (hW hw 196 rfl) dE_ (rm30_26 l Z a0 hw [] b5_4_7_40 bb T40.heap n0 Z0 F_size_b5_4_7_40) e82 0 dE_ dE_ dE_ dE_ rfl (by rw [hml]; rfl) b5_4_7_40 E_b5_4_7_40 [] [] rfl (lenOf pd_8 rfl) rfl (by show 2 * 0 + _ ≤ _; exact Nat.le_of_eq rfl) (hb hby at_355)) fun T84 L84 v84 X84 hQ84 => ?_
        obtain ⟨rfl, N84, e84⟩ := hQ84
        replace N0 := Fr.app N0 N84
        show own_Go p e below _ (T84.setTop (mkF m 358 (lA7_ p0 q1 q2 q3 q4 q5 hi aa bb o0 b1_40 (fmax q3 q2) q3 bb aa) [(.long bb)]))
        refine own_by (B := T84.setTop (mkF m 367 (lA7_ p0 q1 q2 q3 q4 q5 hi aa bb o0 b1_40 (fmax q3 q2) q3 bb aa) [(.int (1 : Int32)), (.ref b1_40)])) (fun t k => ?_) ?_
        · refine XS.lload X84.here hx rfl (hb hby at_358) rfl ?_
          refine XS.lcmp X84.here hx rfl (hb hby at_360) rfl ?_
          show Steps p.tables e below (T84.setTop (mkF m 361 (lA7_ p0 q1 q2 q3 q4 q5 hi aa bb o0 b1_40 (fmax q3 q2) q3 bb aa) [(.int (lcmpW bb bb))])) _
          refine XS.ifNo X84.here hx rfl (hb hby at_361) rfl ((if0 _ _).trans (teq ((lw_eq _ _).mpr (rfl : bb = bb))).2) ?_
          show Steps p.tables e below (T84.setTop (mkF m 364 (lA7_ p0 q1 q2 q3 q4 q5 hi aa bb o0 b1_40 (fmax q3 q2) q3 bb aa) [])) _
          refine XS.aload X84.here hx rfl (hb hby at_364) rfl rfl ?_
          refine XS.iconst X84.here hx rfl (hb hby at_366) ?_
          exact k
        refine own_cc (own_callF X84 hx hZ (y := y30_) (z := y24_) hown (hW hw 164 rfl) (hW hw 165 rfl) (hW hw 166 rfl) (hW hw 167 rfl) (hW hw 168 rfl) (hW hw 169 rfl) (hW hw 170 rfl) (hW hw 123 rfl) (hW hw 90 rfl) (hW hw 171 rfl) dE_ (rm25_46 l Z a0 hw [] b1_40 b3_4_40 b5_4_7_40 b5_7_40 (2 : Int32) k3_4_40 T40.heap n0 Z0 E_b1_40 F_elementData_b1_40 F_size_b1_40 V_b3_4_40 (by decide : (1 : Int32) < (2 : Int32))) e84 0 dE_ dE_ dE_ dE_ rfl (by rw [hml]; rfl) b1_40 E_b1_40 [(.int (1 : Int32))] [] rfl (lenOf pd_15 rfl) rfl (by show 2 * 0 + _ ≤ _; exact Nat.le_of_eq rfl) (hb hby at_367)) fun T86 L86 v86 X86 hQ86 => ?_
        obtain ⟨rfl, N86, e86⟩ := hQ86
        replace N0 := Fr.app N0 N86
        show own_Go p e below _ (T86.setTop (mkF m 372 (lA7_ p0 q1 q2 q3 q4 q5 hi aa bb o0 b1_40 (fmax q3 q2) q3 bb aa) [(.ref b5_7_40)]))
        refine own_c1 (castY X86 hx hZ hown (hW hw 185 rfl) e86 (Ins.self E_b5_7_40) rfl rfl (hb hby at_372)) fun T87 X87 e87 => ?_
        show own_Go p e below _ (T87.setTop (mkF m 375 (lA7_ p0 q1 q2 q3 q4 q5 hi aa bb o0 b1_40 (fmax q3 q2) q3 bb aa) [(.ref b5_7_40)]))
        refine own_cc (own_callV X87 hx hZ (y := y25_) (z := y25_) hown (hW hw 187 rfl) (hW hw 188 rfl) (notFace_of_selects (args := #[]) (mvT hZ (hW hw 190 rfl))) (hW hw 190 rfl) (hW hw 189 rfl) (hW hw 131 rfl) (hW hw 191 rfl) dE_ (rm29_25 l Z a0 hw [] b5_7_40 q3 T40.heap n0 Z0 F_price_b5_7_40) e87 0 dE_ dE_ dE_ dE_ rfl (by rw [hml]; rfl) b5_7_40 E_b5_7_40 [] [] rfl (lenOf pd_8 rfl) rfl (by show 2 * 0 + _ ≤ _; exact Nat.le_of_eq rfl) (hb hby at_375)) fun T89 L89 v89 X89 hQ89 => ?_
        obtain ⟨rfl, N89, e89⟩ := hQ89
        replace N0 := Fr.app N0 N89
        show own_Go p e below _ (T89.setTop (mkF m 378 (lA7_ p0 q1 q2 q3 q4 q5 hi aa bb o0 b1_40 (fmax q3 q2) q3 bb aa) [(.long q3)]))
        refine own_by (B := T89.setTop (mkF m 387 (lA7_ p0 q1 q2 q3 q4 q5 hi aa bb o0 b1_40 (fmax q3 q2) q3 bb aa) [(.int (1 : Int32)), (.ref b1_40)])) (fun t k => ?_) ?_
        · refine XS.lload X89.here hx rfl (hb hby at_378) rfl ?_
          refine XS.lcmp X89.here hx rfl (hb hby at_380) rfl ?_
          show Steps p.tables e below (T89.setTop (mkF m 381 (lA7_ p0 q1 q2 q3 q4 q5 hi aa bb o0 b1_40 (fmax q3 q2) q3 bb aa) [(.int (lcmpW q3 q3))])) _
          refine XS.ifNo X89.here hx rfl (hb hby at_381) rfl ((if0 _ _).trans (teq ((lw_eq _ _).mpr (rfl : q3 = q3))).2) ?_
          show Steps p.tables e below (T89.setTop (mkF m 384 (lA7_ p0 q1 q2 q3 q4 q5 hi aa bb o0 b1_40 (fmax q3 q2) q3 bb aa) [])) _
          refine XS.aload X89.here hx rfl (hb hby at_384) rfl rfl ?_
          refine XS.iconst X89.here hx rfl (hb hby at_386) ?_
          exact k
        refine own_cc (own_callF X89 hx hZ (y := y30_) (z := y24_) hown (hW hw 164 rfl) (hW hw 165 rfl) (hW hw 166 rfl) (hW hw 167 rfl) (hW hw 168 rfl) (hW hw 169 rfl) (hW hw 170 rfl) (hW hw 123 rfl) (hW hw 90 rfl) (hW hw 171 rfl) dE_ (rm25_46 l Z a0 hw [] b1_40 b3_4_40 b5_4_7_40 b5_7_40 (2 : Int32) k3_4_40 T40.heap n0 Z0 E_b1_40 F_elementData_b1_40 F_size_b1_40 V_b3_4_40 (by decide : (1 : Int32) < (2 : Int32))) e89 0 dE_ dE_ dE_ dE_ rfl (by rw [hml]; rfl) b1_40 E_b1_40 [(.int (1 : Int32))] [] rfl (lenOf pd_15 rfl) rfl (by show 2 * 0 + _ ≤ _; exact Nat.le_of_eq rfl) (hb hby at_387)) fun T91 L91 v91 X91 hQ91 => ?_
        obtain ⟨rfl, N91, e91⟩ := hQ91
        replace N0 := Fr.app N0 N91
        show own_Go p e below _ (T91.setTop (mkF m 392 (lA7_ p0 q1 q2 q3 q4 q5 hi aa bb o0 b1_40 (fmax q3 q2) q3 bb aa) [(.ref b5_7_40)]))
        refine own_c1 (castY X91 hx hZ hown (hW hw 185 rfl) e91 (Ins.self E_b5_7_40) rfl rfl (hb hby at_392)) fun T92 X92 e92 => ?_
        show own_Go p e below _ (T92.setTop (mkF m 395 (lA7_ p0 q1 q2 q3 q4 q5 hi aa bb o0 b1_40 (fmax q3 q2) q3 bb aa) [(.ref b5_7_40)]))
        refine own_cc (own_callV X92 hx hZ (y := y26_) (z := y26_) hown (hW hw 192 rfl) (hW hw 193 rfl) (notFace_of_selects (args := #[]) (mvT hZ (hW hw 195 rfl))) (hW hw 195 rfl) (hW hw 194 rfl) (hW hw 131 rfl) (hW hw 196 rfl) dE_ (rm30_26 l Z a0 hw [] b5_7_40 aa T40.heap n0 Z0 F_size_b5_7_40) e92 0 dE_ dE_ dE_ dE_ rfl (by rw [hml]; rfl) b5_7_40 E_b5_7_40 [] [] rfl (lenOf pd_8 rfl) rfl (by show 2 * 0 + _ ≤ _; exact Nat.le_of_eq rfl) (hb hby at_395)) fun T94 L94 v94 X94 hQ94 => ?_
        obtain ⟨rfl, N94, e94⟩ := hQ94
        replace N0 := Fr.app N0 N94
        show own_Go p e below _ (T94.setTop (mkF m 398 (lA7_ p0 q1 q2 q3 q4 q5 hi aa bb o0 b1_40 (fmax q3 q2) q3 bb aa) [(.long aa)]))
        refine own_by (B := T94.setTop (mkF m 406 (lA7_ p0 q1 q2 q3 q4 q5 hi aa bb o0 b1_40 (fmax q3 q2) q3 bb aa) [(.ref o0)])) (fun t k => ?_) ?_
        · refine XS.lload X94.here hx rfl (hb hby at_398) rfl ?_
          refine XS.lcmp X94.here hx rfl (hb hby at_400) rfl ?_
          show Steps p.tables e below (T94.setTop (mkF m 401 (lA7_ p0 q1 q2 q3 q4 q5 hi aa bb o0 b1_40 (fmax q3 q2) q3 bb aa) [(.int (lcmpW aa aa))])) _
          refine XS.ifNo X94.here hx rfl (hb hby at_401) rfl ((if0 _ _).trans (teq ((lw_eq _ _).mpr (rfl : aa = aa))).2) ?_
          show Steps p.tables e below (T94.setTop (mkF m 404 (lA7_ p0 q1 q2 q3 q4 q5 hi aa bb o0 b1_40 (fmax q3 q2) q3 bb aa) [])) _
          refine XS.aload X94.here hx rfl (hb hby at_404) rfl rfl ?_
          exact k
        refine own_cc (own_callV X94 hx hZ (y := y5_) (z := y5_) hown (hW hw 73 rfl) (hW hw 74 rfl) (notFace_of_selects (args := #[]) (mvT hZ (hW hw 76 rfl))) (hW hw 76 rfl) (hW hw 75 rfl) (hW hw 3 rfl) (hW hw 77 rfl) dE_ (rm12_47 l Z a0 hw [] o0 aP kP (0 : Int64) q3 q2 T40.heap n0 Z0 F_prices_o0 F_best_o0 V_aP) e94 0 dE_ dE_ dE_ dE_ rfl (by rw [hml]; rfl) o0 E_o0 [] [] rfl (lenOf pd_8 rfl) rfl (by show 2 * 0 + _ ≤ _; exact Nat.le_of_eq rfl) (hb hby at_406)) fun T96 L96 v96 X96 hQ96 => ?_
        obtain ⟨rfl, N96, e96⟩ := hQ96
        replace N0 := Fr.app N0 N96
        show own_Go p e below _ (T96.setTop (mkF m 409 (lA7_ p0 q1 q2 q3 q4 q5 hi aa bb o0 b1_40 (fmax q3 q2) q3 bb aa) [(.long q2)]))
        refine own_by (B := T96.setTop (mkF m 417 (lA7_ p0 q1 q2 q3 q4 q5 hi aa bb o0 b1_40 (fmax q3 q2) q3 bb aa) [(.ref o0)])) (fun t k => ?_) ?_
        · refine XS.lload X96.here hx rfl (hb hby at_409) rfl ?_
          refine XS.lcmp X96.here hx rfl (hb hby at_411) rfl ?_
          show Steps p.tables e below (T96.setTop (mkF m 412 (lA7_ p0 q1 q2 q3 q4 q5 hi aa bb o0 b1_40 (fmax q3 q2) q3 bb aa) [(.int (lcmpW q2 (fmax q3 q2)))])) _
          refine XS.ifNo X96.here hx rfl (hb hby at_412) rfl ((if0 _ _).trans (teq ((lw_eq _ _).mpr (Eq.symm (own_fmax_q2_t q2 q3 (own_lt3 q2 q3 hi hc13 hc36 hc42 hhi))))).2) ?_
          show Steps p.tables e below (T96.setTop (mkF m 415 (lA7_ p0 q1 q2 q3 q4 q5 hi aa bb o0 b1_40 (fmax q3 q2) q3 bb aa) [])) _
          refine XS.aload X96.here hx rfl (hb hby at_415) rfl rfl ?_
          exact k
        refine own_cc (own_callV X96 hx hZ (y := y6_) (z := y6_) hown (hW hw 78 rfl) (hW hw 79 rfl) (notFace_of_selects (args := #[]) (mvT hZ (hW hw 81 rfl))) (hW hw 81 rfl) (hW hw 80 rfl) (hW hw 3 rfl) (hW hw 82 rfl) dE_ (rm13_48 l Z a0 hw [] o0 aS kS (0 : Int64) aa bb T40.heap n0 Z0 F_sizes_o0 F_best_o0 V_aS) e96 0 dE_ dE_ dE_ dE_ rfl (by rw [hml]; rfl) o0 E_o0 [] [] rfl (lenOf pd_8 rfl) rfl (by show 2 * 0 + _ ≤ _; exact Nat.le_of_eq rfl) (hb hby at_417)) fun T98 L98 v98 X98 hQ98 => ?_
        obtain ⟨rfl, N98, e98⟩ := hQ98
        replace N0 := Fr.app N0 N98
        show own_Go p e below _ (T98.setTop (mkF m 420 (lA7_ p0 q1 q2 q3 q4 q5 hi aa bb o0 b1_40 (fmax q3 q2) q3 bb aa) [(.long bb)]))
        refine own_by (B := T98.setTop (mkF m 431 (lA7_ p0 q1 q2 q3 q4 q5 hi aa bb o0 b1_40 (fmax q3 q2) q3 bb aa) [(.int (1 : Int32))])) (fun t k => ?_) ?_
        · refine XS.lload X98.here hx rfl (hb hby at_420) rfl ?_
          refine XS.lcmp X98.here hx rfl (hb hby at_422) rfl ?_
          show Steps p.tables e below (T98.setTop (mkF m 423 (lA7_ p0 q1 q2 q3 q4 q5 hi aa bb o0 b1_40 (fmax q3 q2) q3 bb aa) [(.int (lcmpW bb bb))])) _
          refine XS.ifNo X98.here hx rfl (hb hby at_423) rfl ((if0 _ _).trans (teq ((lw_eq _ _).mpr (rfl : bb = bb))).2) ?_
          show Steps p.tables e below (T98.setTop (mkF m 426 (lA7_ p0 q1 q2 q3 q4 q5 hi aa bb o0 b1_40 (fmax q3 q2) q3 bb aa) [])) _
          refine XS.iconst X98.here hx rfl (hb hby at_426) ?_
          refine XS.goto X98.here hx rfl (pc0 := 427) (pc' := 431) rfl (hb hby at_427) dE_ dE_ ?_
          show Steps p.tables e below (T98.setTop (mkF m 431 (lA7_ p0 q1 q2 q3 q4 q5 hi aa bb o0 b1_40 (fmax q3 q2) q3 bb aa) [(.int (1 : Int32))])) _
          exact k
        exact own_retN X98 Blk hx (t := .boolean) Bret (by simp) (hb hby at_431) (by
            try rw [show T98.heap = T40.heap from e98]
            exact ⟨rfl, N0⟩) dE_ dE_
    · skip
      show own_Go p e below _ (T10.setTop (mkF m 145 (lA5_ p0 q1 q2 q3 q4 q5 hi aa bb o0) [(.long bb), (.long q2), (.ref o0)]))
      refine own_cc (own_callV X10 hx hZ (y := y15_) (z := y15_) hown (hW hw 33 rfl) (hW hw 34 rfl) (notFace_of_selects (args := #[]) (mvT hZ (hW hw 36 rfl))) (hW hw 36 rfl) (hW hw 35 rfl) (hW hw 3 rfl) (hW hw 37 rfl) dE_ (rm3_53 l Z a0 hw [] o0 q2 bb aP aS aL aR aH (1 : Int32) (0 : Int32) (1 : Int32) (nar .boolean hi) kP (0 : Int64) q3 xP2 kS (0 : Int64) aa xS2 kL (0 : Int32) xL2 kR (0 : Int32) (0 : Int32) xR2 kH (0 : Int32) (1 : Int32) xH2 T10.heap n0 Z0 E_o0 g_o0 F_prices_o0 F_sizes_o0 F_left_o0 F_right_o0 F_heights_o0 F_root_o0 F_best_o0 F_unused_o0 F_free_o0 F_count_o0 F_highestFirst_o0 g_aP V_aP g_aS V_aS g_aL V_aL g_aR V_aR g_aH V_aH hbb (by decide : (0 : Int32) = (0 : Int32)) hc13 hc36 (by decide : (0 : Int32) = (0 : Int32)) (Ne.symm ne_aP_aS) (Ne.symm ne_aP_aL) (Ne.symm ne_aP_aR) (Ne.symm ne_aP_aH) (Ne.symm ne_aS_aL) (Ne.symm ne_aS_aR) (Ne.symm ne_aS_aH) (Ne.symm ne_aL_aR) (Ne.symm ne_aL_aH) (Ne.symm ne_aR_aH) (by decide : ¬ ((1 : Int32) < (-1 : Int32))) (by decide : ¬ ((-1 : Int32) < (-1 : Int32)))) (rfl : T10.heap = _) 0 dE_ dE_ dE_ dE_ rfl (by rw [hml]; rfl) o0 E_o0 [(.long q2), (.long bb)] [] rfl (lenOf pd_2 rfl) rfl (by show 2 * 0 + _ ≤ _; exact Nat.le_of_eq rfl) (hb hby at_145)) fun T100 L100 v100 X100 hQ100 => ?_
      obtain ⟨rfl, N100, K100, V_aH', V_aR', V_aL', V_aS', V_aP', E_o0', F_prices_o0', F_sizes_o0', F_left_o0', F_right_o0', F_heights_o0', F_root_o0', F_best_o0', F_unused_o0', F_free_o0', F_count_o0', F_highestFirst_o0'⟩ := hQ100
      replace N0 := Fr.app N0 N100
      replace E_o0 := E_o0.keep K100
      replace E_b1_6 := E_b1_6.keep K100
      replace F_modCount_b1_6 := F_modCount_b1_6.keep K100 (ninS (Ne.symm ne_aH_b1_6) (ninS (Ne.symm ne_aR_b1_6) (ninS (Ne.symm ne_aL_b1_6) (ninS (Ne.symm ne_aS_b1_6) (ninS (Ne.symm ne_aP_b1_6) (ninS (Ne.symm ne_o0_b1_6) nin0))))))
      replace F_elementData_b1_6 := F_elementData_b1_6.keep K100 (ninS (Ne.symm ne_aH_b1_6) (ninS (Ne.symm ne_aR_b1_6) (ninS (Ne.symm ne_aL_b1_6) (ninS (Ne.symm ne_aS_b1_6) (ninS (Ne.symm ne_aP_b1_6) (ninS (Ne.symm ne_o0_b1_6) nin0))))))
      replace F_size_b1_6 := F_size_b1_6.keep K100 (ninS (Ne.symm ne_aH_b1_6) (ninS (Ne.symm ne_aR_b1_6) (ninS (Ne.symm ne_aL_b1_6) (ninS (Ne.symm ne_aS_b1_6) (ninS (Ne.symm ne_aP_b1_6) (ninS (Ne.symm ne_o0_b1_6) nin0))))))
      replace OZ := OZ.keep K100 (allS g_aH (allS g_aR (allS g_aL (allS g_aS (allS g_aP (allS g_o0 all0))))))
      replace Z0 := Nat.le_trans Z0 K100.1
      have V_aH : Arv Z T100.heap aH kH .byte (8 : Int32) [oZ, (.int (2 : Int32)), (.int (1 : Int32))] oZ := V_aH'
      have V_aR := V_aR'
      have V_aL := V_aL'
      have V_aS := V_aS'
      have V_aP := V_aP'
      replace E_o0 := E_o0'
      have F_prices_o0 := F_prices_o0'
      have F_sizes_o0 := F_sizes_o0'
      have F_left_o0 := F_left_o0'
      have F_right_o0 := F_right_o0'
      have F_heights_o0 := F_heights_o0'
      have F_root_o0 := F_root_o0'
      have F_best_o0 := F_best_o0'
      have F_unused_o0 := F_unused_o0'
      have F_free_o0 := F_free_o0'
      have F_count_o0 : Fld Z T100.heap o0 c0_ "count" "I" (.int (2 : Int32)) := F_count_o0'
      have F_highestFirst_o0 := F_highestFirst_o0'
      show own_Go p e below _ (T100.setTop (mkF m 148 (lA5_ p0 q1 q2 q3 q4 q5 hi aa bb o0) []))
      refine own_by (B := T100.setTop (mkF m 150 (lA5_ p0 q1 q2 q3 q4 q5 hi aa bb o0) [(.ref o0)])) (fun t k => ?_) ?_
      · refine XS.aload X100.here hx rfl (hb hby at_148) rfl rfl ?_
        exact k
      refine own_cc (own_callV X100 hx hZ (y := y11_) (z := y11_) hown (hW hw 83 rfl) (hW hw 84 rfl) (notFace_of_selects (args := #[]) (mvT hZ (hW hw 86 rfl))) (hW hw 86 rfl) (hW hw 85 rfl) (hW hw 3 rfl) (hW hw 87 rfl) dE_ (rm14_56 l Z a0 hw [] o0 aP aS aL aR kP (0 : Int64) q3 q2 kS (0 : Int64) aa bb kL (0 : Int32) (0 : Int32) (0 : Int32) kR (0 : Int32) (0 : Int32) T100.heap n0 Z0 E_o0 F_prices_o0 F_sizes_o0 F_left_o0 F_right_o0 F_root_o0 F_count_o0 V_aP V_aS V_aL V_aR (by decide : (0 : Int32) = (0 : Int32)) (by decide : (0 : Int32) = (0 : Int32)) (by decide : (0 : Int32) = (0 : Int32))) (rfl : T100.heap = _) 0 dE_ dE_ dE_ dE_ rfl (by rw [hml]; rfl) o0 E_o0 [] [] rfl (lenOf pd_9 rfl) rfl (by show 2 * 0 + _ ≤ _; exact Nat.le_of_eq rfl) (hb hby at_150)) fun T102 L102 v102 X102 hQ102 => ?_
      obtain ⟨b1_102, b3_4_102, b5_7_102, b5_17_7_102, k3_4_102, rfl, N102, K102, E_b1_102', F_modCount_b1_102', F_elementData_b1_102', F_size_b1_102', V_b3_4_102', Ov_k3_4_102', E_b5_7_102', F_price_b5_7_102', F_size_b5_7_102', E_b5_17_7_102', F_price_b5_17_7_102', F_size_b5_17_7_102', sz_b1_102', sz_b3_4_102', sz_b5_7_102', sz_b5_17_7_102', ne_b1_102_b3_4_102', ne_b1_102_b5_7_102', ne_b1_102_b5_17_7_102', ne_b3_4_102_b5_7_102', ne_b3_4_102_b5_17_7_102', ne_b5_7_102_b5_17_7_102'⟩ := hQ102
      replace N0 := Fr.app N0 N102
      have g_b1_102 : n0 ≤ b1_102 := Nat.le_trans Z0 sz_b1_102'
      have ne_o0_b1_102 : o0 ≠ b1_102 := Nat.ne_of_lt (Nat.lt_of_lt_of_le E_o0.lt sz_b1_102')
      have ne_b1_6_b1_102 : b1_6 ≠ b1_102 := Nat.ne_of_lt (Nat.lt_of_lt_of_le E_b1_6.lt sz_b1_102')
      have ne_aH_b1_102 : aH ≠ b1_102 := Nat.ne_of_lt (Nat.lt_of_lt_of_le V_aH.lt sz_b1_102')
      have ne_aR_b1_102 : aR ≠ b1_102 := Nat.ne_of_lt (Nat.lt_of_lt_of_le V_aR.lt sz_b1_102')
      have ne_aL_b1_102 : aL ≠ b1_102 := Nat.ne_of_lt (Nat.lt_of_lt_of_le V_aL.lt sz_b1_102')
      have ne_aS_b1_102 : aS ≠ b1_102 := Nat.ne_of_lt (Nat.lt_of_lt_of_le V_aS.lt sz_b1_102')
      have ne_aP_b1_102 : aP ≠ b1_102 := Nat.ne_of_lt (Nat.lt_of_lt_of_le V_aP.lt sz_b1_102')
      have g_b3_4_102 : n0 ≤ b3_4_102 := Nat.le_trans Z0 sz_b3_4_102'
      have ne_o0_b3_4_102 : o0 ≠ b3_4_102 := Nat.ne_of_lt (Nat.lt_of_lt_of_le E_o0.lt sz_b3_4_102')
      have ne_b1_6_b3_4_102 : b1_6 ≠ b3_4_102 := Nat.ne_of_lt (Nat.lt_of_lt_of_le E_b1_6.lt sz_b3_4_102')
      have ne_aH_b3_4_102 : aH ≠ b3_4_102 := Nat.ne_of_lt (Nat.lt_of_lt_of_le V_aH.lt sz_b3_4_102')
      have ne_aR_b3_4_102 : aR ≠ b3_4_102 := Nat.ne_of_lt (Nat.lt_of_lt_of_le V_aR.lt sz_b3_4_102')
      have ne_aL_b3_4_102 : aL ≠ b3_4_102 := Nat.ne_of_lt (Nat.lt_of_lt_of_le V_aL.lt sz_b3_4_102')
      have ne_aS_b3_4_102 : aS ≠ b3_4_102 := Nat.ne_of_lt (Nat.lt_of_lt_of_le V_aS.lt sz_b3_4_102')
      have ne_aP_b3_4_102 : aP ≠ b3_4_102 := Nat.ne_of_lt (Nat.lt_of_lt_of_le V_aP.lt sz_b3_4_102')
      have g_b5_7_102 : n0 ≤ b5_7_102 := Nat.le_trans Z0 sz_b5_7_102'
      have ne_o0_b5_7_102 : o0 ≠ b5_7_102 := Nat.ne_of_lt (Nat.lt_of_lt_of_le E_o0.lt sz_b5_7_102')
      have ne_b1_6_b5_7_102 : b1_6 ≠ b5_7_102 := Nat.ne_of_lt (Nat.lt_of_lt_of_le E_b1_6.lt sz_b5_7_102')
      have ne_aH_b5_7_102 : aH ≠ b5_7_102 := Nat.ne_of_lt (Nat.lt_of_lt_of_le V_aH.lt sz_b5_7_102')
      have ne_aR_b5_7_102 : aR ≠ b5_7_102 := Nat.ne_of_lt (Nat.lt_of_lt_of_le V_aR.lt sz_b5_7_102')
      have ne_aL_b5_7_102 : aL ≠ b5_7_102 := Nat.ne_of_lt (Nat.lt_of_lt_of_le V_aL.lt sz_b5_7_102')
      have ne_aS_b5_7_102 : aS ≠ b5_7_102 := Nat.ne_of_lt (Nat.lt_of_lt_of_le V_aS.lt sz_b5_7_102')
      have ne_aP_b5_7_102 : aP ≠ b5_7_102 := Nat.ne_of_lt (Nat.lt_of_lt_of_le V_aP.lt sz_b5_7_102')
      have g_b5_17_7_102 : n0 ≤ b5_17_7_102 := Nat.le_trans Z0 sz_b5_17_7_102'
      have ne_o0_b5_17_7_102 : o0 ≠ b5_17_7_102 := Nat.ne_of_lt (Nat.lt_of_lt_of_le E_o0.lt sz_b5_17_7_102')
      have ne_b1_6_b5_17_7_102 : b1_6 ≠ b5_17_7_102 := Nat.ne_of_lt (Nat.lt_of_lt_of_le E_b1_6.lt sz_b5_17_7_102')
      have ne_aH_b5_17_7_102 : aH ≠ b5_17_7_102 := Nat.ne_of_lt (Nat.lt_of_lt_of_le V_aH.lt sz_b5_17_7_102')
      have ne_aR_b5_17_7_102 : aR ≠ b5_17_7_102 := Nat.ne_of_lt (Nat.lt_of_lt_of_le V_aR.lt sz_b5_17_7_102')
      have ne_aL_b5_17_7_102 : aL ≠ b5_17_7_102 := Nat.ne_of_lt (Nat.lt_of_lt_of_le V_aL.lt sz_b5_17_7_102')
      have ne_aS_b5_17_7_102 : aS ≠ b5_17_7_102 := Nat.ne_of_lt (Nat.lt_of_lt_of_le V_aS.lt sz_b5_17_7_102')
      have ne_aP_b5_17_7_102 : aP ≠ b5_17_7_102 := Nat.ne_of_lt (Nat.lt_of_lt_of_le V_aP.lt sz_b5_17_7_102')
      replace E_o0 := E_o0.keep K102
      replace E_b1_6 := E_b1_6.keep K102
      replace F_modCount_b1_6 := F_modCount_b1_6.keep K102 nin0
      replace F_elementData_b1_6 := F_elementData_b1_6.keep K102 nin0
      replace F_size_b1_6 := F_size_b1_6.keep K102 nin0
      replace V_aH := V_aH.keep K102 nin0
      replace V_aR := V_aR.keep K102 nin0
      replace V_aL := V_aL.keep K102 nin0
      replace V_aS := V_aS.keep K102 nin0
      replace V_aP := V_aP.keep K102 nin0
      replace F_prices_o0 := F_prices_o0.keep K102 nin0
      replace F_sizes_o0 := F_sizes_o0.keep K102 nin0
      replace F_left_o0 := F_left_o0.keep K102 nin0
      replace F_right_o0 := F_right_o0.keep K102 nin0
      replace F_heights_o0 := F_heights_o0.keep K102 nin0
      replace F_root_o0 := F_root_o0.keep K102 nin0
      replace F_best_o0 := F_best_o0.keep K102 nin0
      replace F_unused_o0 := F_unused_o0.keep K102 nin0
      replace F_free_o0 := F_free_o0.keep K102 nin0
      replace F_count_o0 := F_count_o0.keep K102 nin0
      replace F_highestFirst_o0 := F_highestFirst_o0.keep K102 nin0
      replace OZ := OZ.keep K102 all0
      replace Z0 := Nat.le_trans Z0 K102.1
      have E_b1_102 := E_b1_102'
      have F_modCount_b1_102 := F_modCount_b1_102'
      have F_elementData_b1_102 := F_elementData_b1_102'
      have F_size_b1_102 := F_size_b1_102'
      have V_b3_4_102 := V_b3_4_102'
      have Ov_k3_4_102 := Ov_k3_4_102'
      have E_b5_7_102 := E_b5_7_102'
      have F_price_b5_7_102 := F_price_b5_7_102'
      have F_size_b5_7_102 := F_size_b5_7_102'
      have E_b5_17_7_102 := E_b5_17_7_102'
      have F_price_b5_17_7_102 := F_price_b5_17_7_102'
      have F_size_b5_17_7_102 := F_size_b5_17_7_102'
      have ne_b1_102_b3_4_102 := ne_b1_102_b3_4_102'
      have ne_b1_102_b5_7_102 := ne_b1_102_b5_7_102'
      have ne_b1_102_b5_17_7_102 := ne_b1_102_b5_17_7_102'
      have ne_b3_4_102_b5_7_102 := ne_b3_4_102_b5_7_102'
      have ne_b3_4_102_b5_17_7_102 := ne_b3_4_102_b5_17_7_102'
      have ne_b5_7_102_b5_17_7_102 := ne_b5_7_102_b5_17_7_102'
      show own_Go p e below _ (T102.setTop (mkF m 153 (lA5_ p0 q1 q2 q3 q4 q5 hi aa bb o0) [(.ref b1_102)]))
      refine own_by (B := T102.setTop (mkF m 243 (lA6_ p0 q1 q2 q3 q4 q5 hi aa bb o0 b1_102) [(.int hi)])) (fun t k => ?_) ?_
      · refine XS.astore X102.here hx rfl (hb hby at_153) rfl rfl (l' := (lA6_ p0 q1 q2 q3 q4 q5 hi aa bb o0 b1_102)) rfl ?_
        show Steps p.tables e below (T102.setTop (mkF m 155 (lA6_ p0 q1 q2 q3 q4 q5 hi aa bb o0 b1_102) [])) _
        refine XS.lload X102.here hx rfl (hb hby at_155) rfl ?_
        refine XS.lloadN X102.here hx rfl (hb hby at_157) rfl ?_
        refine XS.lcmp X102.here hx rfl (hb hby at_158) rfl ?_
        show Steps p.tables e below (T102.setTop (mkF m 159 (lA6_ p0 q1 q2 q3 q4 q5 hi aa bb o0 b1_102) [(.int (lcmpW q3 q2))])) _
        refine XS.ifYes X102.here hx rfl (pc0 := 159) (pc' := 241) rfl (hb hby at_159) rfl ((if0 _ _).trans (feq (fun q => (own_cne q2 q3 _ hc13) ((lw_eq _ _).mp q))).2) dE_ dE_ ?_
        show Steps p.tables e below (T102.setTop (mkF m 241 (lA6_ p0 q1 q2 q3 q4 q5 hi aa bb o0 b1_102) [])) _
        refine XS.iload X102.here hx rfl (hb hby at_241) rfl ?_
        exact k
      by_cases hc104 : hi = (0 : Int32)
      · skip
        refine own_by (fun t k => XS.ifYes X102.here hx rfl (pc0 := 243) (pc' := 255) rfl (hb hby at_243) rfl ((if0 _ _).trans (teq hc104).1) dE_ dE_ k) ?_
        show own_Go p e below _ (T102.setTop (mkF m 255 (lA6_ p0 q1 q2 q3 q4 q5 hi aa bb o0 b1_102) []))
        refine own_by (B := T102.setTop (mkF m 258 (lA6_ p0 q1 q2 q3 q4 q5 hi aa bb o0 b1_102) [(.long q2), (.long q3)])) (fun t k => ?_) ?_
        · refine XS.lload X102.here hx rfl (hb hby at_255) rfl ?_
          refine XS.lloadN X102.here hx rfl (hb hby at_257) rfl ?_
          exact k
        refine own_cc (own_callS X102 hx hZ (y := y3_) hown (hW hw 161 rfl) (hW hw 162 rfl) (hW hw 66 rfl) (hW hw 163 rfl) dE_ (rm24 l Z a0 hw [] q3 q2 T102.heap n0 Z0 ) (rfl : T102.heap = _) 0 dE_ dE_ dE_ dE_ rfl (by rw [hml]; rfl) [(.long q3), (.long q2)] [] rfl (lenOf pd_14 rfl) rfl (by show 2 * 0 + _ ≤ _; exact Nat.le_of_eq rfl) (hb hby at_258)) fun T106 L106 v106 X106 hQ106 => ?_
        obtain ⟨rfl, N106, e106⟩ := hQ106
        replace N0 := Fr.app N0 N106
        show own_Go p e below _ (T106.setTop (mkF m 261 (lA6_ p0 q1 q2 q3 q4 q5 hi aa bb o0 b1_102) [(.long (fmin q3 q2))]))
        refine own_by (B := T106.setTop (mkF m 315 (lA7_ p0 q1 q2 q3 q4 q5 hi aa bb o0 b1_102 (fmin q3 q2) q2 aa bb) [(.ref b1_102)])) (fun t k => ?_) ?_
        · refine XS.lstore X106.here hx rfl (hb hby at_261) rfl (l' := (lA8_ p0 q1 q2 q3 q4 q5 hi aa bb o0 b1_102 (fmin q3 q2))) rfl ?_
          show Steps p.tables e below (T106.setTop (mkF m 263 (lA8_ p0 q1 q2 q3 q4 q5 hi aa bb o0 b1_102 (fmin q3 q2)) [])) _
          refine XS.lload X106.here hx rfl (hb hby at_263) rfl ?_
          refine XS.lload X106.here hx rfl (hb hby at_265) rfl ?_
          refine XS.lcmp X106.here hx rfl (hb hby at_267) rfl ?_
          show Steps p.tables e below (T106.setTop (mkF m 268 (lA8_ p0 q1 q2 q3 q4 q5 hi aa bb o0 b1_102 (fmin q3 q2)) [(.int (lcmpW (fmin q3 q2) q3))])) _
          refine XS.ifNo X106.here hx rfl (hb hby at_268) rfl ((if0 _ _).trans (teq ((lw_eq _ _).mpr (own_fmin_q3_t q2 q3 (own_lt2 q2 q3 hi hc13 hc36 hc104 hhi)))).2) ?_
          show Steps p.tables e below (T106.setTop (mkF m 271 (lA8_ p0 q1 q2 q3 q4 q5 hi aa bb o0 b1_102 (fmin q3 q2)) [])) _
          refine XS.lloadN X106.here hx rfl (hb hby at_271) rfl ?_
          refine XS.goto X106.here hx rfl (pc0 := 272) (pc' := 277) rfl (hb hby at_272) dE_ dE_ ?_
          show Steps p.tables e below (T106.setTop (mkF m 277 (lA8_ p0 q1 q2 q3 q4 q5 hi aa bb o0 b1_102 (fmin q3 q2)) [(.long q2)])) _
          refine XS.lstore X106.here hx rfl (hb hby at_277) rfl (l' := (lA9_ p0 q1 q2 q3 q4 q5 hi aa bb o0 b1_102 (fmin q3 q2) q2)) rfl ?_
          show Steps p.tables e below (T106.setTop (mkF m 279 (lA9_ p0 q1 q2 q3 q4 q5 hi aa bb o0 b1_102 (fmin q3 q2) q2) [])) _
          refine XS.lload X106.here hx rfl (hb hby at_279) rfl ?_
          refine XS.lload X106.here hx rfl (hb hby at_281) rfl ?_
          refine XS.lcmp X106.here hx rfl (hb hby at_283) rfl ?_
          show Steps p.tables e below (T106.setTop (mkF m 284 (lA9_ p0 q1 q2 q3 q4 q5 hi aa bb o0 b1_102 (fmin q3 q2) q2) [(.int (lcmpW (fmin q3 q2) q3))])) _
          refine XS.ifNo X106.here hx rfl (hb hby at_284) rfl ((if0 _ _).trans (teq ((lw_eq _ _).mpr (own_fmin_q3_t q2 q3 (own_lt2 q2 q3 hi hc13 hc36 hc104 hhi)))).2) ?_
          show Steps p.tables e below (T106.setTop (mkF m 287 (lA9_ p0 q1 q2 q3 q4 q5 hi aa bb o0 b1_102 (fmin q3 q2) q2) [])) _
          refine XS.lload X106.here hx rfl (hb hby at_287) rfl ?_
          refine XS.goto X106.here hx rfl (pc0 := 289) (pc' := 294) rfl (hb hby at_289) dE_ dE_ ?_
          show Steps p.tables e below (T106.setTop (mkF m 294 (lA9_ p0 q1 q2 q3 q4 q5 hi aa bb o0 b1_102 (fmin q3 q2) q2) [(.long aa)])) _
          refine XS.lstore X106.here hx rfl (hb hby at_294) rfl (l' := (lA10_ p0 q1 q2 q3 q4 q5 hi aa bb o0 b1_102 (fmin q3 q2) q2 aa)) rfl ?_
          show Steps p.tables e below (T106.setTop (mkF m 296 (lA10_ p0 q1 q2 q3 q4 q5 hi aa bb o0 b1_102 (fmin q3 q2) q2 aa) [])) _
          refine XS.lload X106.here hx rfl (hb hby at_296) rfl ?_
          refine XS.lload X106.here hx rfl (hb hby at_298) rfl ?_
          refine XS.lcmp X106.here hx rfl (hb hby at_300) rfl ?_
          show Steps p.tables e below (T106.setTop (mkF m 301 (lA10_ p0 q1 q2 q3 q4 q5 hi aa bb o0 b1_102 (fmin q3 q2) q2 aa) [(.int (lcmpW (fmin q3 q2) q3))])) _
          refine XS.ifNo X106.here hx rfl (hb hby at_301) rfl ((if0 _ _).trans (teq ((lw_eq _ _).mpr (own_fmin_q3_t q2 q3 (own_lt2 q2 q3 hi hc13 hc36 hc104 hhi)))).2) ?_
          show Steps p.tables e below (T106.setTop (mkF m 304 (lA10_ p0 q1 q2 q3 q4 q5 hi aa bb o0 b1_102 (fmin q3 q2) q2 aa) [])) _
          refine XS.lload X106.here hx rfl (hb hby at_304) rfl ?_
          refine XS.goto X106.here hx rfl (pc0 := 306) (pc' := 311) rfl (hb hby at_306) dE_ dE_ ?_
          show Steps p.tables e below (T106.setTop (mkF m 311 (lA10_ p0 q1 q2 q3 q4 q5 hi aa bb o0 b1_102 (fmin q3 q2) q2 aa) [(.long bb)])) _
          refine XS.lstore X106.here hx rfl (hb hby at_311) rfl (l' := (lA7_ p0 q1 q2 q3 q4 q5 hi aa bb o0 b1_102 (fmin q3 q2) q2 aa bb)) rfl ?_
          show Steps p.tables e below (T106.setTop (mkF m 313 (lA7_ p0 q1 q2 q3 q4 q5 hi aa bb o0 b1_102 (fmin q3 q2) q2 aa bb) [])) _
          refine XS.aload X106.here hx rfl (hb hby at_313) rfl rfl ?_
          exact k
        refine own_cc (own_callF X106 hx hZ (y := y29_) (z := y12_) hown (hW hw 116 rfl) (hW hw 117 rfl) (hW hw 118 rfl) (hW hw 119 rfl) (hW hw 120 rfl) (hW hw 121 rfl) (hW hw 122 rfl) (hW hw 123 rfl) (hW hw 90 rfl) (hW hw 124 rfl) dE_ (rm19_8 l Z a0 hw [] b1_102 (2 : Int32) T102.heap n0 Z0 F_size_b1_102) e106 0 dE_ dE_ dE_ dE_ rfl (by rw [hml]; rfl) b1_102 E_b1_102 [] [] rfl (lenOf pd_11 rfl) rfl (by show 2 * 0 + _ ≤ _; exact Nat.le_of_eq rfl) (hb hby at_315)) fun T108 L108 v108 X108 hQ108 => ?_
        obtain ⟨rfl, N108, e108⟩ := hQ108
        replace N0 := Fr.app N0 N108
        show own_Go p e below _ (T108.setTop (mkF m 320 (lA7_ p0 q1 q2 q3 q4 q5 hi aa bb o0 b1_102 (fmin q3 q2) q2 aa bb) [(.int (2 : Int32))]))
        refine own_by (B := T108.setTop (mkF m 327 (lA7_ p0 q1 q2 q3 q4 q5 hi aa bb o0 b1_102 (fmin q3 q2) q2 aa bb) [oZ, (.ref b1_102)])) (fun t k => ?_) ?_
        · refine XS.iconst X108.here hx rfl (hb hby at_320) ?_
          refine XS.icmpNo X108.here hx rfl (hb hby at_321) rfl (teq (by decide : (2 : Int32) = (2 : Int32))).2 ?_
          show Steps p.tables e below (T108.setTop (mkF m 324 (lA7_ p0 q1 q2 q3 q4 q5 hi aa bb o0 b1_102 (fmin q3 q2) q2 aa bb) [])) _
          refine XS.aload X108.here hx rfl (hb hby at_324) rfl rfl ?_
          refine XS.iconst X108.here hx rfl (hb hby at_326) ?_
          exact k
        refine own_cc (own_callF X108 hx hZ (y := y30_) (z := y24_) hown (hW hw 164 rfl) (hW hw 165 rfl) (hW hw 166 rfl) (hW hw 167 rfl) (hW hw 168 rfl) (hW hw 169 rfl) (hW hw 170 rfl) (hW hw 123 rfl) (hW hw 90 rfl) (hW hw 171 rfl) dE_ (rm25_44 l Z a0 hw [] b1_102 b3_4_102 b5_7_102 b5_17_7_102 (2 : Int32) k3_4_102 T102.heap n0 Z0 E_b1_102 F_elementData_b1_102 F_size_b1_102 V_b3_4_102 (by decide : (0 : Int32) < (2 : Int32))) e108 0 dE_ dE_ dE_ dE_ rfl (by rw [hml]; rfl) b1_102 E_b1_102 [oZ] [] rfl (lenOf pd_15 rfl) rfl (by show 2 * 0 + _ ≤ _; exact Nat.le_of_eq rfl) (hb hby at_327)) fun T110 L110 v110 X110 hQ110 => ?_
        obtain ⟨rfl, N110, e110⟩ := hQ110
        replace N0 := Fr.app N0 N110
        show own_Go p e below _ (T110.setTop (mkF m 332 (lA7_ p0 q1 q2 q3 q4 q5 hi aa bb o0 b1_102 (fmin q3 q2) q2 aa bb) [(.ref b5_7_102)]))
        refine own_c1 (castY X110 hx hZ hown (hW hw 185 rfl) e110 (Ins.self E_b5_7_102) rfl rfl (hb hby at_332)) fun T111 X111 e111 => ?_
        show own_Go p e below _ (T111.setTop (mkF m 335 (lA7_ p0 q1 q2 q3 q4 q5 hi aa bb o0 b1_102 (fmin q3 q2) q2 aa bb) [(.ref b5_7_102)]))
        refine own_cc (own_callV X111 hx hZ (y := y25_) (z := y25_) hown (hW hw 187 rfl) (hW hw 188 rfl) (notFace_of_selects (args := #[]) (mvT hZ (hW hw 190 rfl))) (hW hw 190 rfl) (hW hw 189 rfl) (hW hw 131 rfl) (hW hw 191 rfl) dE_ (rm29_25 l Z a0 hw [] b5_7_102 q3 T102.heap n0 Z0 F_price_b5_7_102) e111 0 dE_ dE_ dE_ dE_ rfl (by rw [hml]; rfl) b5_7_102 E_b5_7_102 [] [] rfl (lenOf pd_8 rfl) rfl (by show 2 * 0 + _ ≤ _; exact Nat.le_of_eq rfl) (hb hby at_335)) fun T113 L113 v113 X113 hQ113 => ?_
        obtain ⟨rfl, N113, e113⟩ := hQ113
        replace N0 := Fr.app N0 N113
        show own_Go p e below _ (T113.setTop (mkF m 338 (lA7_ p0 q1 q2 q3 q4 q5 hi aa bb o0 b1_102 (fmin q3 q2) q2 aa bb) [(.long q3)]))
        refine own_by (B := T113.setTop (mkF m 347 (lA7_ p0 q1 q2 q3 q4 q5 hi aa bb o0 b1_102 (fmin q3 q2) q2 aa bb) [oZ, (.ref b1_102)])) (fun t k => ?_) ?_
        · refine XS.lload X113.here hx rfl (hb hby at_338) rfl ?_
          refine XS.lcmp X113.here hx rfl (hb hby at_340) rfl ?_
          show Steps p.tables e below (T113.setTop (mkF m 341 (lA7_ p0 q1 q2 q3 q4 q5 hi aa bb o0 b1_102 (fmin q3 q2) q2 aa bb) [(.int (lcmpW q3 (fmin q3 q2)))])) _
          refine XS.ifNo X113.here hx rfl (hb hby at_341) rfl ((if0 _ _).trans (teq ((lw_eq _ _).mpr (Eq.symm (own_fmin_q3_t q2 q3 (own_lt2 q2 q3 hi hc13 hc36 hc104 hhi))))).2) ?_
          show Steps p.tables e below (T113.setTop (mkF m 344 (lA7_ p0 q1 q2 q3 q4 q5 hi aa bb o0 b1_102 (fmin q3 q2) q2 aa bb) [])) _
          refine XS.aload X113.here hx rfl (hb hby at_344) rfl rfl ?_
          refine XS.iconst X113.here hx rfl (hb hby at_346) ?_
          exact k
        refine own_cc (own_callF X113 hx hZ (y := y30_) (z := y24_) hown (hW hw 164 rfl) (hW hw 165 rfl) (hW hw 166 rfl) (hW hw 167 rfl) (hW hw 168 rfl) (hW hw 169 rfl) (hW hw 170 rfl) (hW hw 123 rfl) (hW hw 90 rfl) (hW hw 171 rfl) dE_ (rm25_44 l Z a0 hw [] b1_102 b3_4_102 b5_7_102 b5_17_7_102 (2 : Int32) k3_4_102 T102.heap n0 Z0 E_b1_102 F_elementData_b1_102 F_size_b1_102 V_b3_4_102 (by decide : (0 : Int32) < (2 : Int32))) e113 0 dE_ dE_ dE_ dE_ rfl (by rw [hml]; rfl) b1_102 E_b1_102 [oZ] [] rfl (lenOf pd_15 rfl) rfl (by show 2 * 0 + _ ≤ _; exact Nat.le_of_eq rfl) (hb hby at_347)) fun T115 L115 v115 X115 hQ115 => ?_
        obtain ⟨rfl, N115, e115⟩ := hQ115
        replace N0 := Fr.app N0 N115
        show own_Go p e below _ (T115.setTop (mkF m 352 (lA7_ p0 q1 q2 q3 q4 q5 hi aa bb o0 b1_102 (fmin q3 q2) q2 aa bb) [(.ref b5_7_102)]))
        refine own_c1 (castY X115 hx hZ hown (hW hw 185 rfl) e115 (Ins.self E_b5_7_102) rfl rfl (hb hby at_352)) fun T116 X116 e116 => ?_
        show own_Go p e below _ (T116.setTop (mkF m 355 (lA7_ p0 q1 q2 q3 q4 q5 hi aa bb o0 b1_102 (fmin q3 q2) q2 aa bb) [(.ref b5_7_102)]))
        refine own_cc (own_callV X116 hx hZ (y := y26_) (z := y26_) hown (hW hw 192 rfl) (hW hw 193 rfl) (notFace_of_selects (args := #[]) (mvT hZ (hW hw 195 rfl))) (hW hw 195 rfl) (hW hw 194 rfl) (hW hw 131 rfl) (hW hw 196 rfl) dE_ (rm30_26 l Z a0 hw [] b5_7_102 aa T102.heap n0 Z0 F_size_b5_7_102) e116 0 dE_ dE_ dE_ dE_ rfl (by rw [hml]; rfl) b5_7_102 E_b5_7_102 [] [] rfl (lenOf pd_8 rfl) rfl (by show 2 * 0 + _ ≤ _; exact Nat.le_of_eq rfl) (hb hby at_355)) fun T118 L118 v118 X118 hQ118 => ?_
        obtain ⟨rfl, N118, e118⟩ := hQ118
        replace N0 := Fr.app N0 N118
        show own_Go p e below _ (T118.setTop (mkF m 358 (lA7_ p0 q1 q2 q3 q4 q5 hi aa bb o0 b1_102 (fmin q3 q2) q2 aa bb) [(.long aa)]))
        refine own_by (B := T118.setTop (mkF m 367 (lA7_ p0 q1 q2 q3 q4 q5 hi aa bb o0 b1_102 (fmin q3 q2) q2 aa bb) [(.int (1 : Int32)), (.ref b1_102)])) (fun t k => ?_) ?_
        · refine XS.lload X118.here hx rfl (hb hby at_358) rfl ?_
          refine XS.lcmp X118.here hx rfl (hb hby at_360) rfl ?_
          show Steps p.tables e below (T118.setTop (mkF m 361 (lA7_ p0 q1 q2 q3 q4 q5 hi aa bb o0 b1_102 (fmin q3 q2) q2 aa bb) [(.int (lcmpW aa aa))])) _
          refine XS.ifNo X118.here hx rfl (hb hby at_361) rfl ((if0 _ _).trans (teq ((lw_eq _ _).mpr (rfl : aa = aa))).2) ?_
          show Steps p.tables e below (T118.setTop (mkF m 364 (lA7_ p0 q1 q2 q3 q4 q5 hi aa bb o0 b1_102 (fmin q3 q2) q2 aa bb) [])) _
          refine XS.aload X118.here hx rfl (hb hby at_364) rfl rfl ?_
          refine XS.iconst X118.here hx rfl (hb hby at_366) ?_
          exact k
        refine own_cc (own_callF X118 hx hZ (y := y30_) (z := y24_) hown (hW hw 164 rfl) (hW hw 165 rfl) (hW hw 166 rfl) (hW hw 167 rfl) (hW hw 168 rfl) (hW hw 169 rfl) (hW hw 170 rfl) (hW hw 123 rfl) (hW hw 90 rfl) (hW hw 171 rfl) dE_ (rm25_46 l Z a0 hw [] b1_102 b3_4_102 b5_7_102 b5_17_7_102 (2 : Int32) k3_4_102 T102.heap n0 Z0 E_b1_102 F_elementData_b1_102 F_size_b1_102 V_b3_4_102 (by decide : (1 : Int32) < (2 : Int32))) e118 0 dE_ dE_ dE_ dE_ rfl (by rw [hml]; rfl) b1_102 E_b1_102 [(.int (1 : Int32))] [] rfl (lenOf pd_15 rfl) rfl (by show 2 * 0 + _ ≤ _; exact Nat.le_of_eq rfl) (hb hby at_367)) fun T120 L120 v120 X120 hQ120 => ?_
        obtain ⟨rfl, N120, e120⟩ := hQ120
        replace N0 := Fr.app N0 N120
        show own_Go p e below _ (T120.setTop (mkF m 372 (lA7_ p0 q1 q2 q3 q4 q5 hi aa bb o0 b1_102 (fmin q3 q2) q2 aa bb) [(.ref b5_17_7_102)]))
        refine own_c1 (castY X120 hx hZ hown (hW hw 185 rfl) e120 (Ins.self E_b5_17_7_102) rfl rfl (hb hby at_372)) fun T121 X121 e121 => ?_
        show own_Go p e below _ (T121.setTop (mkF m 375 (lA7_ p0 q1 q2 q3 q4 q5 hi aa bb o0 b1_102 (fmin q3 q2) q2 aa bb) [(.ref b5_17_7_102)]))
        refine own_cc (own_callV X121 hx hZ (y := y25_) (z := y25_) hown (hW hw 187 rfl) (hW hw 188 rfl) (notFace_of_selects (args := #[]) (mvT hZ (hW hw 190 rfl))) (hW hw 190 rfl) (hW hw 189 rfl) (hW hw 131 rfl) (hW hw 191 rfl) dE_ (rm29_25 l Z a0 hw [] b5_17_7_102 q2 T102.heap n0 Z0 F_price_b5_17_7_102) e121 0 dE_ dE_ dE_ dE_ rfl (by rw [hml]; rfl) b5_17_7_102 E_b5_17_7_102 [] [] rfl (lenOf pd_8 rfl) rfl (by show 2 * 0 + _ ≤ _; exact Nat.le_of_eq rfl) (hb hby at_375)) fun T123 L123 v123 X123 hQ123 => ?_
        obtain ⟨rfl, N123, e123⟩ := hQ123
        replace N0 := Fr.app N0 N123
        show own_Go p e below _ (T123.setTop (mkF m 378 (lA7_ p0 q1 q2 q3 q4 q5 hi aa bb o0 b1_102 (fmin q3 q2) q2 aa bb) [(.long q2)]))
        refine own_by (B := T123.setTop (mkF m 387 (lA7_ p0 q1 q2 q3 q4 q5 hi aa bb o0 b1_102 (fmin q3 q2) q2 aa bb) [(.int (1 : Int32)), (.ref b1_102)])) (fun t k => ?_) ?_
        · refine XS.lload X123.here hx rfl (hb hby at_378) rfl ?_
          refine XS.lcmp X123.here hx rfl (hb hby at_380) rfl ?_
          show Steps p.tables e below (T123.setTop (mkF m 381 (lA7_ p0 q1 q2 q3 q4 q5 hi aa bb o0 b1_102 (fmin q3 q2) q2 aa bb) [(.int (lcmpW q2 q2))])) _
          refine XS.ifNo X123.here hx rfl (hb hby at_381) rfl ((if0 _ _).trans (teq ((lw_eq _ _).mpr (rfl : q2 = q2))).2) ?_
          show Steps p.tables e below (T123.setTop (mkF m 384 (lA7_ p0 q1 q2 q3 q4 q5 hi aa bb o0 b1_102 (fmin q3 q2) q2 aa bb) [])) _
          refine XS.aload X123.here hx rfl (hb hby at_384) rfl rfl ?_
          refine XS.iconst X123.here hx rfl (hb hby at_386) ?_
          exact k
        refine own_cc (own_callF X123 hx hZ (y := y30_) (z := y24_) hown (hW hw 164 rfl) (hW hw 165 rfl) (hW hw 166 rfl) (hW hw 167 rfl) (hW hw 168 rfl) (hW hw 169 rfl) (hW hw 170 rfl) (hW hw 123 rfl) (hW hw 90 rfl) (hW hw 171 rfl) dE_ (rm25_46 l Z a0 hw [] b1_102 b3_4_102 b5_7_102 b5_17_7_102 (2 : Int32) k3_4_102 T102.heap n0 Z0 E_b1_102 F_elementData_b1_102 F_size_b1_102 V_b3_4_102 (by decide : (1 : Int32) < (2 : Int32))) e123 0 dE_ dE_ dE_ dE_ rfl (by rw [hml]; rfl) b1_102 E_b1_102 [(.int (1 : Int32))] [] rfl (lenOf pd_15 rfl) rfl (by show 2 * 0 + _ ≤ _; exact Nat.le_of_eq rfl) (hb hby at_387)) fun T125 L125 v125 X125 hQ125 => ?_
        obtain ⟨rfl, N125, e125⟩ := hQ125
        replace N0 := Fr.app N0 N125
        show own_Go p e below _ (T125.setTop (mkF m 392 (lA7_ p0 q1 q2 q3 q4 q5 hi aa bb o0 b1_102 (fmin q3 q2) q2 aa bb) [(.ref b5_17_7_102)]))
        refine own_c1 (castY X125 hx hZ hown (hW hw 185 rfl) e125 (Ins.self E_b5_17_7_102) rfl rfl (hb hby at_392)) fun T126 X126 e126 => ?_
        show own_Go p e below _ (T126.setTop (mkF m 395 (lA7_ p0 q1 q2 q3 q4 q5 hi aa bb o0 b1_102 (fmin q3 q2) q2 aa bb) [(.ref b5_17_7_102)]))
        refine own_cc (own_callV X126 hx hZ (y := y26_) (z := y26_) hown (hW hw 192 rfl) (hW hw 193 rfl) (notFace_of_selects (args := #[]) (mvT hZ (hW hw 195 rfl))) (hW hw 195 rfl) (hW hw 194 rfl) (hW hw 131 rfl) (hW hw 196 rfl) dE_ (rm30_26 l Z a0 hw [] b5_17_7_102 bb T102.heap n0 Z0 F_size_b5_17_7_102) e126 0 dE_ dE_ dE_ dE_ rfl (by rw [hml]; rfl) b5_17_7_102 E_b5_17_7_102 [] [] rfl (lenOf pd_8 rfl) rfl (by show 2 * 0 + _ ≤ _; exact Nat.le_of_eq rfl) (hb hby at_395)) fun T128 L128 v128 X128 hQ128 => ?_
        obtain ⟨rfl, N128, e128⟩ := hQ128
        replace N0 := Fr.app N0 N128
        show own_Go p e below _ (T128.setTop (mkF m 398 (lA7_ p0 q1 q2 q3 q4 q5 hi aa bb o0 b1_102 (fmin q3 q2) q2 aa bb) [(.long bb)]))
        refine own_by (B := T128.setTop (mkF m 406 (lA7_ p0 q1 q2 q3 q4 q5 hi aa bb o0 b1_102 (fmin q3 q2) q2 aa bb) [(.ref o0)])) (fun t k => ?_) ?_
        · refine XS.lload X128.here hx rfl (hb hby at_398) rfl ?_
          refine XS.lcmp X128.here hx rfl (hb hby at_400) rfl ?_
          show Steps p.tables e below (T128.setTop (mkF m 401 (lA7_ p0 q1 q2 q3 q4 q5 hi aa bb o0 b1_102 (fmin q3 q2) q2 aa bb) [(.int (lcmpW bb bb))])) _
          refine XS.ifNo X128.here hx rfl (hb hby at_401) rfl ((if0 _ _).trans (teq ((lw_eq _ _).mpr (rfl : bb = bb))).2) ?_
          show Steps p.tables e below (T128.setTop (mkF m 404 (lA7_ p0 q1 q2 q3 q4 q5 hi aa bb o0 b1_102 (fmin q3 q2) q2 aa bb) [])) _
          refine XS.aload X128.here hx rfl (hb hby at_404) rfl rfl ?_
          exact k
        refine own_cc (own_callV X128 hx hZ (y := y5_) (z := y5_) hown (hW hw 73 rfl) (hW hw 74 rfl) (notFace_of_selects (args := #[]) (mvT hZ (hW hw 76 rfl))) (hW hw 76 rfl) (hW hw 75 rfl) (hW hw 3 rfl) (hW hw 77 rfl) dE_ (rm12_27 l Z a0 hw [] o0 aP kP (0 : Int64) q3 q2 T102.heap n0 Z0 F_prices_o0 F_best_o0 V_aP) e128 0 dE_ dE_ dE_ dE_ rfl (by rw [hml]; rfl) o0 E_o0 [] [] rfl (lenOf pd_8 rfl) rfl (by show 2 * 0 + _ ≤ _; exact Nat.le_of_eq rfl) (hb hby at_406)) fun T130 L130 v130 X130 hQ130 => ?_
        obtain ⟨rfl, N130, e130⟩ := hQ130
        replace N0 := Fr.app N0 N130
        show own_Go p e below _ (T130.setTop (mkF m 409 (lA7_ p0 q1 q2 q3 q4 q5 hi aa bb o0 b1_102 (fmin q3 q2) q2 aa bb) [(.long q3)]))
        refine own_by (B := T130.setTop (mkF m 417 (lA7_ p0 q1 q2 q3 q4 q5 hi aa bb o0 b1_102 (fmin q3 q2) q2 aa bb) [(.ref o0)])) (fun t k => ?_) ?_
        · refine XS.lload X130.here hx rfl (hb hby at_409) rfl ?_
          refine XS.lcmp X130.here hx rfl (hb hby at_411) rfl ?_
          show Steps p.tables e below (T130.setTop (mkF m 412 (lA7_ p0 q1 q2 q3 q4 q5 hi aa bb o0 b1_102 (fmin q3 q2) q2 aa bb) [(.int (lcmpW q3 (fmin q3 q2)))])) _
          refine XS.ifNo X130.here hx rfl (hb hby at_412) rfl ((if0 _ _).trans (teq ((lw_eq _ _).mpr (Eq.symm (own_fmin_q3_t q2 q3 (own_lt2 q2 q3 hi hc13 hc36 hc104 hhi))))).2) ?_
          show Steps p.tables e below (T130.setTop (mkF m 415 (lA7_ p0 q1 q2 q3 q4 q5 hi aa bb o0 b1_102 (fmin q3 q2) q2 aa bb) [])) _
          refine XS.aload X130.here hx rfl (hb hby at_415) rfl rfl ?_
          exact k
        refine own_cc (own_callV X130 hx hZ (y := y6_) (z := y6_) hown (hW hw 78 rfl) (hW hw 79 rfl) (notFace_of_selects (args := #[]) (mvT hZ (hW hw 81 rfl))) (hW hw 81 rfl) (hW hw 80 rfl) (hW hw 3 rfl) (hW hw 82 rfl) dE_ (rm13_28 l Z a0 hw [] o0 aS kS (0 : Int64) aa bb T102.heap n0 Z0 F_sizes_o0 F_best_o0 V_aS) e130 0 dE_ dE_ dE_ dE_ rfl (by rw [hml]; rfl) o0 E_o0 [] [] rfl (lenOf pd_8 rfl) rfl (by show 2 * 0 + _ ≤ _; exact Nat.le_of_eq rfl) (hb hby at_417)) fun T132 L132 v132 X132 hQ132 => ?_
        obtain ⟨rfl, N132, e132⟩ := hQ132
        replace N0 := Fr.app N0 N132
        show own_Go p e below _ (T132.setTop (mkF m 420 (lA7_ p0 q1 q2 q3 q4 q5 hi aa bb o0 b1_102 (fmin q3 q2) q2 aa bb) [(.long aa)]))
        refine own_by (B := T132.setTop (mkF m 431 (lA7_ p0 q1 q2 q3 q4 q5 hi aa bb o0 b1_102 (fmin q3 q2) q2 aa bb) [(.int (1 : Int32))])) (fun t k => ?_) ?_
        · refine XS.lload X132.here hx rfl (hb hby at_420) rfl ?_
          refine XS.lcmp X132.here hx rfl (hb hby at_422) rfl ?_
          show Steps p.tables e below (T132.setTop (mkF m 423 (lA7_ p0 q1 q2 q3 q4 q5 hi aa bb o0 b1_102 (fmin q3 q2) q2 aa bb) [(.int (lcmpW aa aa))])) _
          refine XS.ifNo X132.here hx rfl (hb hby at_423) rfl ((if0 _ _).trans (teq ((lw_eq _ _).mpr (rfl : aa = aa))).2) ?_
          show Steps p.tables e below (T132.setTop (mkF m 426 (lA7_ p0 q1 q2 q3 q4 q5 hi aa bb o0 b1_102 (fmin q3 q2) q2 aa bb) [])) _
          refine XS.iconst X132.here hx rfl (hb hby at_426) ?_
          refine XS.goto X132.here hx rfl (pc0 := 427) (pc' := 431) rfl (hb hby at_427) dE_ dE_ ?_
          show Steps p.tables e below (T132.setTop (mkF m 431 (lA7_ p0 q1 q2 q3 q4 q5 hi aa bb o0 b1_102 (fmin q3 q2) q2 aa bb) [(.int (1 : Int32))])) _
          exact k
        exact own_retN X132 Blk hx (t := .boolean) Bret (by simp) (hb hby at_431) (by
            try rw [show T132.heap = T102.heap from e132]
            exact ⟨rfl, N0⟩) dE_ dE_
      · skip
        refine own_by (fun t k => XS.ifNo X102.here hx rfl (hb hby at_243) rfl ((if0 _ _).trans (feq hc104).1) k) ?_
        show own_Go p e below _ (T102.setTop (mkF m 246 (lA6_ p0 q1 q2 q3 q4 q5 hi aa bb o0 b1_102) []))
        refine own_by (B := T102.setTop (mkF m 249 (lA6_ p0 q1 q2 q3 q4 q5 hi aa bb o0 b1_102) [(.long q2), (.long q3)])) (fun t k => ?_) ?_
        · refine XS.lload X102.here hx rfl (hb hby at_246) rfl ?_
          refine XS.lloadN X102.here hx rfl (hb hby at_248) rfl ?_
          exact k
        refine own_cc (own_callS X102 hx hZ (y := y2_) hown (hW hw 205 rfl) (hW hw 206 rfl) (hW hw 66 rfl) (hW hw 207 rfl) dE_ (rm33 l Z a0 hw [] q3 q2 T102.heap n0 Z0 ) (rfl : T102.heap = _) 0 dE_ dE_ dE_ dE_ rfl (by rw [hml]; rfl) [(.long q3), (.long q2)] [] rfl (lenOf pd_14 rfl) rfl (by show 2 * 0 + _ ≤ _; exact Nat.le_of_eq rfl) (hb hby at_249)) fun T134 L134 v134 X134 hQ134 => ?_
        obtain ⟨rfl, N134, e134⟩ := hQ134
        replace N0 := Fr.app N0 N134
        show own_Go p e below _ (T134.setTop (mkF m 252 (lA6_ p0 q1 q2 q3 q4 q5 hi aa bb o0 b1_102) [(.long (fmax q3 q2))]))
        refine own_by (B := T134.setTop (mkF m 315 (lA7_ p0 q1 q2 q3 q4 q5 hi aa bb o0 b1_102 (fmax q3 q2) q2 aa bb) [(.ref b1_102)])) (fun t k => ?_) ?_
        · refine XS.goto X134.here hx rfl (pc0 := 252) (pc' := 261) rfl (hb hby at_252) dE_ dE_ ?_
          show Steps p.tables e below (T134.setTop (mkF m 261 (lA6_ p0 q1 q2 q3 q4 q5 hi aa bb o0 b1_102) [(.long (fmax q3 q2))])) _
          refine XS.lstore X134.here hx rfl (hb hby at_261) rfl (l' := (lA8_ p0 q1 q2 q3 q4 q5 hi aa bb o0 b1_102 (fmax q3 q2))) rfl ?_
          show Steps p.tables e below (T134.setTop (mkF m 263 (lA8_ p0 q1 q2 q3 q4 q5 hi aa bb o0 b1_102 (fmax q3 q2)) [])) _
          refine XS.lload X134.here hx rfl (hb hby at_263) rfl ?_
          refine XS.lload X134.here hx rfl (hb hby at_265) rfl ?_
          refine XS.lcmp X134.here hx rfl (hb hby at_267) rfl ?_
          show Steps p.tables e below (T134.setTop (mkF m 268 (lA8_ p0 q1 q2 q3 q4 q5 hi aa bb o0 b1_102 (fmax q3 q2)) [(.int (lcmpW (fmax q3 q2) q3))])) _
          refine XS.ifNo X134.here hx rfl (hb hby at_268) rfl ((if0 _ _).trans (teq ((lw_eq _ _).mpr (own_fmax_q3_t q2 q3 (own_lt4 q2 q3 hi hc13 hc36 hc104 hhi)))).2) ?_
          show Steps p.tables e below (T134.setTop (mkF m 271 (lA8_ p0 q1 q2 q3 q4 q5 hi aa bb o0 b1_102 (fmax q3 q2)) [])) _
          refine XS.lloadN X134.here hx rfl (hb hby at_271) rfl ?_
          refine XS.goto X134.here hx rfl (pc0 := 272) (pc' := 277) rfl (hb hby at_272) dE_ dE_ ?_
          show Steps p.tables e below (T134.setTop (mkF m 277 (lA8_ p0 q1 q2 q3 q4 q5 hi aa bb o0 b1_102 (fmax q3 q2)) [(.long q2)])) _
          refine XS.lstore X134.here hx rfl (hb hby at_277) rfl (l' := (lA9_ p0 q1 q2 q3 q4 q5 hi aa bb o0 b1_102 (fmax q3 q2) q2)) rfl ?_
          show Steps p.tables e below (T134.setTop (mkF m 279 (lA9_ p0 q1 q2 q3 q4 q5 hi aa bb o0 b1_102 (fmax q3 q2) q2) [])) _
          refine XS.lload X134.here hx rfl (hb hby at_279) rfl ?_
          refine XS.lload X134.here hx rfl (hb hby at_281) rfl ?_
          refine XS.lcmp X134.here hx rfl (hb hby at_283) rfl ?_
          show Steps p.tables e below (T134.setTop (mkF m 284 (lA9_ p0 q1 q2 q3 q4 q5 hi aa bb o0 b1_102 (fmax q3 q2) q2) [(.int (lcmpW (fmax q3 q2) q3))])) _
          refine XS.ifNo X134.here hx rfl (hb hby at_284) rfl ((if0 _ _).trans (teq ((lw_eq _ _).mpr (own_fmax_q3_t q2 q3 (own_lt4 q2 q3 hi hc13 hc36 hc104 hhi)))).2) ?_
          show Steps p.tables e below (T134.setTop (mkF m 287 (lA9_ p0 q1 q2 q3 q4 q5 hi aa bb o0 b1_102 (fmax q3 q2) q2) [])) _
          refine XS.lload X134.here hx rfl (hb hby at_287) rfl ?_
          refine XS.goto X134.here hx rfl (pc0 := 289) (pc' := 294) rfl (hb hby at_289) dE_ dE_ ?_
          show Steps p.tables e below (T134.setTop (mkF m 294 (lA9_ p0 q1 q2 q3 q4 q5 hi aa bb o0 b1_102 (fmax q3 q2) q2) [(.long aa)])) _
          refine XS.lstore X134.here hx rfl (hb hby at_294) rfl (l' := (lA10_ p0 q1 q2 q3 q4 q5 hi aa bb o0 b1_102 (fmax q3 q2) q2 aa)) rfl ?_
          show Steps p.tables e below (T134.setTop (mkF m 296 (lA10_ p0 q1 q2 q3 q4 q5 hi aa bb o0 b1_102 (fmax q3 q2) q2 aa) [])) _
          refine XS.lload X134.here hx rfl (hb hby at_296) rfl ?_
          refine XS.lload X134.here hx rfl (hb hby at_298) rfl ?_
          refine XS.lcmp X134.here hx rfl (hb hby at_300) rfl ?_
          show Steps p.tables e below (T134.setTop (mkF m 301 (lA10_ p0 q1 q2 q3 q4 q5 hi aa bb o0 b1_102 (fmax q3 q2) q2 aa) [(.int (lcmpW (fmax q3 q2) q3))])) _
          refine XS.ifNo X134.here hx rfl (hb hby at_301) rfl ((if0 _ _).trans (teq ((lw_eq _ _).mpr (own_fmax_q3_t q2 q3 (own_lt4 q2 q3 hi hc13 hc36 hc104 hhi)))).2) ?_
          show Steps p.tables e below (T134.setTop (mkF m 304 (lA10_ p0 q1 q2 q3 q4 q5 hi aa bb o0 b1_102 (fmax q3 q2) q2 aa) [])) _
          refine XS.lload X134.here hx rfl (hb hby at_304) rfl ?_
          refine XS.goto X134.here hx rfl (pc0 := 306) (pc' := 311) rfl (hb hby at_306) dE_ dE_ ?_
          show Steps p.tables e below (T134.setTop (mkF m 311 (lA10_ p0 q1 q2 q3 q4 q5 hi aa bb o0 b1_102 (fmax q3 q2) q2 aa) [(.long bb)])) _
          refine XS.lstore X134.here hx rfl (hb hby at_311) rfl (l' := (lA7_ p0 q1 q2 q3 q4 q5 hi aa bb o0 b1_102 (fmax q3 q2) q2 aa bb)) rfl ?_
          show Steps p.tables e below (T134.setTop (mkF m 313 (lA7_ p0 q1 q2 q3 q4 q5 hi aa bb o0 b1_102 (fmax q3 q2) q2 aa bb) [])) _
          refine XS.aload X134.here hx rfl (hb hby at_313) rfl rfl ?_
          exact k
        refine own_cc (own_callF X134 hx hZ (y := y29_) (z := y12_) hown (hW hw 116 rfl) (hW hw 117 rfl) (hW hw 118 rfl) (hW hw 119 rfl) (hW hw 120 rfl) (hW hw 121 rfl) (hW hw 122 rfl) (hW hw 123 rfl) (hW hw 90 rfl) (hW hw 124 rfl) dE_ (rm19_8 l Z a0 hw [] b1_102 (2 : Int32) T102.heap n0 Z0 F_size_b1_102) e134 0 dE_ dE_ dE_ dE_ rfl (by rw [hml]; rfl) b1_102 E_b1_102 [] [] rfl (lenOf pd_11 rfl) rfl (by show 2 * 0 + _ ≤ _; exact Nat.le_of_eq rfl) (hb hby at_315)) fun T136 L136 v136 X136 hQ136 => ?_
        obtain ⟨rfl, N136, e136⟩ := hQ136
        replace N0 := Fr.app N0 N136
        show own_Go p e below _ (T136.setTop (mkF m 320 (lA7_ p0 q1 q2 q3 q4 q5 hi aa bb o0 b1_102 (fmax q3 q2) q2 aa bb) [(.int (2 : Int32))]))
        refine own_by (B := T136.setTop (mkF m 327 (lA7_ p0 q1 q2 q3 q4 q5 hi aa bb o0 b1_102 (fmax q3 q2) q2 aa bb) [oZ, (.ref b1_102)])) (fun t k => ?_) ?_
        · refine XS.iconst X136.here hx rfl (hb hby at_320) ?_
          refine XS.icmpNo X136.here hx rfl (hb hby at_321) rfl (teq (by decide : (2 : Int32) = (2 : Int32))).2 ?_
          show Steps p.tables e below (T136.setTop (mkF m 324 (lA7_ p0 q1 q2 q3 q4 q5 hi aa bb o0 b1_102 (fmax q3 q2) q2 aa bb) [])) _
          refine XS.aload X136.here hx rfl (hb hby at_324) rfl rfl ?_
          refine XS.iconst X136.here hx rfl (hb hby at_326) ?_
          exact k
        refine own_cc (own_callF X136 hx hZ (y := y30_) (z := y24_) hown (hW hw 164 rfl) (hW hw 165 rfl) (hW hw 166 rfl) (hW hw 167 rfl) (hW hw 168 rfl) (hW hw 169 rfl) (hW hw 170 rfl) (hW hw 123 rfl) (hW hw 90 rfl) (hW hw 171 rfl) dE_ (rm25_44 l Z a0 hw [] b1_102 b3_4_102 b5_7_102 b5_17_7_102 (2 : Int32) k3_4_102 T102.heap n0 Z0 E_b1_102 F_elementData_b1_102 F_size_b1_102 V_b3_4_102 (by decide : (0 : Int32) < (2 : Int32))) e136 0 dE_ dE_ dE_ dE_ rfl (by rw [hml]; rfl) b1_102 E_b1_102 [oZ] [] rfl (lenOf pd_15 rfl) rfl (by show 2 * 0 + _ ≤ _; exact Nat.le_of_eq rfl) (hb hby at_327)) fun T138 L138 v138 X138 hQ138 => ?_
        obtain ⟨rfl, N138, e138⟩ := hQ138
        replace N0 := Fr.app N0 N138
        show own_Go p e below _ (T138.setTop (mkF m 332 (lA7_ p0 q1 q2 q3 q4 q5 hi aa bb o0 b1_102 (fmax q3 q2) q2 aa bb) [(.ref b5_7_102)]))
        refine own_c1 (castY X138 hx hZ hown (hW hw 185 rfl) e138 (Ins.self E_b5_7_102) rfl rfl (hb hby at_332)) fun T139 X139 e139 => ?_
        show own_Go p e below _ (T139.setTop (mkF m 335 (lA7_ p0 q1 q2 q3 q4 q5 hi aa bb o0 b1_102 (fmax q3 q2) q2 aa bb) [(.ref b5_7_102)]))
        refine own_cc (own_callV X139 hx hZ (y := y25_) (z := y25_) hown (hW hw 187 rfl) (hW hw 188 rfl) (notFace_of_selects (args := #[]) (mvT hZ (hW hw 190 rfl))) (hW hw 190 rfl) (hW hw 189 rfl) (hW hw 131 rfl) (hW hw 191 rfl) dE_ (rm29_25 l Z a0 hw [] b5_7_102 q3 T102.heap n0 Z0 F_price_b5_7_102) e139 0 dE_ dE_ dE_ dE_ rfl (by rw [hml]; rfl) b5_7_102 E_b5_7_102 [] [] rfl (lenOf pd_8 rfl) rfl (by show 2 * 0 + _ ≤ _; exact Nat.le_of_eq rfl) (hb hby at_335)) fun T141 L141 v141 X141 hQ141 => ?_
        obtain ⟨rfl, N141, e141⟩ := hQ141
        replace N0 := Fr.app N0 N141
        show own_Go p e below _ (T141.setTop (mkF m 338 (lA7_ p0 q1 q2 q3 q4 q5 hi aa bb o0 b1_102 (fmax q3 q2) q2 aa bb) [(.long q3)]))
        refine own_by (B := T141.setTop (mkF m 347 (lA7_ p0 q1 q2 q3 q4 q5 hi aa bb o0 b1_102 (fmax q3 q2) q2 aa bb) [oZ, (.ref b1_102)])) (fun t k => ?_) ?_
        · refine XS.lload X141.here hx rfl (hb hby at_338) rfl ?_
          refine XS.lcmp X141.here hx rfl (hb hby at_340) rfl ?_
          show Steps p.tables e below (T141.setTop (mkF m 341 (lA7_ p0 q1 q2 q3 q4 q5 hi aa bb o0 b1_102 (fmax q3 q2) q2 aa bb) [(.int (lcmpW q3 (fmax q3 q2)))])) _
          refine XS.ifNo X141.here hx rfl (hb hby at_341) rfl ((if0 _ _).trans (teq ((lw_eq _ _).mpr (Eq.symm (own_fmax_q3_t q2 q3 (own_lt4 q2 q3 hi hc13 hc36 hc104 hhi))))).2) ?_
          show Steps p.tables e below (T141.setTop (mkF m 344 (lA7_ p0 q1 q2 q3 q4 q5 hi aa bb o0 b1_102 (fmax q3 q2) q2 aa bb) [])) _
          refine XS.aload X141.here hx rfl (hb hby at_344) rfl rfl ?_
          refine XS.iconst X141.here hx rfl (hb hby at_346) ?_
          exact k
        refine own_cc (own_callF X141 hx hZ (y := y30_) (z := y24_) hown (hW hw 164 rfl) (hW hw 165 rfl) (hW hw 166 rfl) (hW hw 167 rfl) (hW hw 168 rfl) (hW hw 169 rfl) (hW hw 170 rfl) (hW hw 123 rfl) (hW hw 90 rfl) (hW hw 171 rfl) dE_ (rm25_44 l Z a0 hw [] b1_102 b3_4_102 b5_7_102 b5_17_7_102 (2 : Int32) k3_4_102 T102.heap n0 Z0 E_b1_102 F_elementData_b1_102 F_size_b1_102 V_b3_4_102 (by decide : (0 : Int32) < (2 : Int32))) e141 0 dE_ dE_ dE_ dE_ rfl (by rw [hml]; rfl) b1_102 E_b1_102 [oZ] [] rfl (lenOf pd_15 rfl) rfl (by show 2 * 0 + _ ≤ _; exact Nat.le_of_eq rfl) (hb hby at_347)) fun T143 L143 v143 X143 hQ143 => ?_
        obtain ⟨rfl, N143, e143⟩ := hQ143
        replace N0 := Fr.app N0 N143
        show own_Go p e below _ (T143.setTop (mkF m 352 (lA7_ p0 q1 q2 q3 q4 q5 hi aa bb o0 b1_102 (fmax q3 q2) q2 aa bb) [(.ref b5_7_102)]))
        refine own_c1 (castY X143 hx hZ hown (hW hw 185 rfl) e143 (Ins.self E_b5_7_102) rfl rfl (hb hby at_352)) fun T144 X144 e144 => ?_
        show own_Go p e below _ (T144.setTop (mkF m 355 (lA7_ p0 q1 q2 q3 q4 q5 hi aa bb o0 b1_102 (fmax q3 q2) q2 aa bb) [(.ref b5_7_102)]))
        refine own_cc (own_callV X144 hx hZ (y := y26_) (z := y26_) hown (hW hw 192 rfl) (hW hw 193 rfl) (notFace_of_selects (args := #[]) (mvT hZ (hW hw 195 rfl))) (hW hw 195 rfl) (hW hw 194 rfl) (hW hw 131 rfl) (hW hw 196 rfl) dE_ (rm30_26 l Z a0 hw [] b5_7_102 aa T102.heap n0 Z0 F_size_b5_7_102) e144 0 dE_ dE_ dE_ dE_ rfl (by rw [hml]; rfl) b5_7_102 E_b5_7_102 [] [] rfl (lenOf pd_8 rfl) rfl (by show 2 * 0 + _ ≤ _; exact Nat.le_of_eq rfl) (hb hby at_355)) fun T146 L146 v146 X146 hQ146 => ?_
        obtain ⟨rfl, N146, e146⟩ := hQ146
        replace N0 := Fr.app N0 N146
        show own_Go p e below _ (T146.setTop (mkF m 358 (lA7_ p0 q1 q2 q3 q4 q5 hi aa bb o0 b1_102 (fmax q3 q2) q2 aa bb) [(.long aa)]))
        refine own_by (B := T146.setTop (mkF m 367 (lA7_ p0 q1 q2 q3 q4 q5 hi aa bb o0 b1_102 (fmax q3 q2) q2 aa bb) [(.int (1 : Int32)), (.ref b1_102)])) (fun t k => ?_) ?_
        · refine XS.lload X146.here hx rfl (hb hby at_358) rfl ?_
          refine XS.lcmp X146.here hx rfl (hb hby at_360) rfl ?_
          show Steps p.tables e below (T146.setTop (mkF m 361 (lA7_ p0 q1 q2 q3 q4 q5 hi aa bb o0 b1_102 (fmax q3 q2) q2 aa bb) [(.int (lcmpW aa aa))])) _
          refine XS.ifNo X146.here hx rfl (hb hby at_361) rfl ((if0 _ _).trans (teq ((lw_eq _ _).mpr (rfl : aa = aa))).2) ?_
          show Steps p.tables e below (T146.setTop (mkF m 364 (lA7_ p0 q1 q2 q3 q4 q5 hi aa bb o0 b1_102 (fmax q3 q2) q2 aa bb) [])) _
          refine XS.aload X146.here hx rfl (hb hby at_364) rfl rfl ?_
          refine XS.iconst X146.here hx rfl (hb hby at_366) ?_
          exact k
        refine own_cc (own_callF X146 hx hZ (y := y30_) (z := y24_) hown (hW hw 164 rfl) (hW hw 165 rfl) (hW hw 166 rfl) (hW hw 167 rfl) (hW hw 168 rfl) (hW hw 169 rfl) (hW hw 170 rfl) (hW hw 123 rfl) (hW hw 90 rfl) (hW hw 171 rfl) dE_ (rm25_46 l Z a0 hw [] b1_102 b3_4_102 b5_7_102 b5_17_7_102 (2 : Int32) k3_4_102 T102.heap n0 Z0 E_b1_102 F_elementData_b1_102 F_size_b1_102 V_b3_4_102 (by decide : (1 : Int32) < (2 : Int32))) e146 0 dE_ dE_ dE_ dE_ rfl (by rw [hml]; rfl) b1_102 E_b1_102 [(.int (1 : Int32))] [] rfl (lenOf pd_15 rfl) rfl (by show 2 * 0 + _ ≤ _; exact Nat.le_of_eq rfl) (hb hby at_367)) fun T148 L148 v148 X148 hQ148 => ?_
        obtain ⟨rfl, N148, e148⟩ := hQ148
        replace N0 := Fr.app N0 N148
        show own_Go p e below _ (T148.setTop (mkF m 372 (lA7_ p0 q1 q2 q3 q4 q5 hi aa bb o0 b1_102 (fmax q3 q2) q2 aa bb) [(.ref b5_17_7_102)]))
        refine own_c1 (castY X148 hx hZ hown (hW hw 185 rfl) e148 (Ins.self E_b5_17_7_102) rfl rfl (hb hby at_372)) fun T149 X149 e149 => ?_
        show own_Go p e below _ (T149.setTop (mkF m 375 (lA7_ p0 q1 q2 q3 q4 q5 hi aa bb o0 b1_102 (fmax q3 q2) q2 aa bb) [(.ref b5_17_7_102)]))
        refine own_cc (own_callV X149 hx hZ (y := y25_) (z := y25_) hown (hW hw 187 rfl) (hW hw 188 rfl) (notFace_of_selects (args := #[]) (mvT hZ (hW hw 190 rfl))) (hW hw 190 rfl) (hW hw 189 rfl) (hW hw 131 rfl) (hW hw 191 rfl) dE_ (rm29_25 l Z a0 hw [] b5_17_7_102 q2 T102.heap n0 Z0 F_price_b5_17_7_102) e149 0 dE_ dE_ dE_ dE_ rfl (by rw [hml]; rfl) b5_17_7_102 E_b5_17_7_102 [] [] rfl (lenOf pd_8 rfl) rfl (by show 2 * 0 + _ ≤ _; exact Nat.le_of_eq rfl) (hb hby at_375)) fun T151 L151 v151 X151 hQ151 => ?_
        obtain ⟨rfl, N151, e151⟩ := hQ151
        replace N0 := Fr.app N0 N151
        show own_Go p e below _ (T151.setTop (mkF m 378 (lA7_ p0 q1 q2 q3 q4 q5 hi aa bb o0 b1_102 (fmax q3 q2) q2 aa bb) [(.long q2)]))
        refine own_by (B := T151.setTop (mkF m 387 (lA7_ p0 q1 q2 q3 q4 q5 hi aa bb o0 b1_102 (fmax q3 q2) q2 aa bb) [(.int (1 : Int32)), (.ref b1_102)])) (fun t k => ?_) ?_
        · refine XS.lload X151.here hx rfl (hb hby at_378) rfl ?_
          refine XS.lcmp X151.here hx rfl (hb hby at_380) rfl ?_
          show Steps p.tables e below (T151.setTop (mkF m 381 (lA7_ p0 q1 q2 q3 q4 q5 hi aa bb o0 b1_102 (fmax q3 q2) q2 aa bb) [(.int (lcmpW q2 q2))])) _
          refine XS.ifNo X151.here hx rfl (hb hby at_381) rfl ((if0 _ _).trans (teq ((lw_eq _ _).mpr (rfl : q2 = q2))).2) ?_
          show Steps p.tables e below (T151.setTop (mkF m 384 (lA7_ p0 q1 q2 q3 q4 q5 hi aa bb o0 b1_102 (fmax q3 q2) q2 aa bb) [])) _
          refine XS.aload X151.here hx rfl (hb hby at_384) rfl rfl ?_
          refine XS.iconst X151.here hx rfl (hb hby at_386) ?_
          exact k
        refine own_cc (own_callF X151 hx hZ (y := y30_) (z := y24_) hown (hW hw 164 rfl) (hW hw 165 rfl) (hW hw 166 rfl) (hW hw 167 rfl) (hW hw 168 rfl) (hW hw 169 rfl) (hW hw 170 rfl) (hW hw 123 rfl) (hW hw 90 rfl) (hW hw 171 rfl) dE_ (rm25_46 l Z a0 hw [] b1_102 b3_4_102 b5_7_102 b5_17_7_102 (2 : Int32) k3_4_102 T102.heap n0 Z0 E_b1_102 F_elementData_b1_102 F_size_b1_102 V_b3_4_102 (by decide : (1 : Int32) < (2 : Int32))) e151 0 dE_ dE_ dE_ dE_ rfl (by rw [hml]; rfl) b1_102 E_b1_102 [(.int (1 : Int32))] [] rfl (lenOf pd_15 rfl) rfl (by show 2 * 0 + _ ≤ _; exact Nat.le_of_eq rfl) (hb hby at_387)) fun T153 L153 v153 X153 hQ153 => ?_
        obtain ⟨rfl, N153, e153⟩ := hQ153
        replace N0 := Fr.app N0 N153
        show own_Go p e below _ (T153.setTop (mkF m 392 (lA7_ p0 q1 q2 q3 q4 q5 hi aa bb o0 b1_102 (fmax q3 q2) q2 aa bb) [(.ref b5_17_7_102)]))
        refine own_c1 (castY X153 hx hZ hown (hW hw 185 rfl) e153 (Ins.self E_b5_17_7_102) rfl rfl (hb hby at_392)) fun T154 X154 e154 => ?_
        show own_Go p e below _ (T154.setTop (mkF m 395 (lA7_ p0 q1 q2 q3 q4 q5 hi aa bb o0 b1_102 (fmax q3 q2) q2 aa bb) [(.ref b5_17_7_102)]))
        refine own_cc (own_callV X154 hx hZ (y := y26_) (z := y26_) hown (hW hw 192 rfl) (hW hw 193 rfl) (notFace_of_selects (args := #[]) (mvT hZ (hW hw 195 rfl))) (hW hw 195 rfl) (hW hw 194 rfl) (hW hw 131 rfl) (hW hw 196 rfl) dE_ (rm30_26 l Z a0 hw [] b5_17_7_102 bb T102.heap n0 Z0 F_size_b5_17_7_102) e154 0 dE_ dE_ dE_ dE_ rfl (by rw [hml]; rfl) b5_17_7_102 E_b5_17_7_102 [] [] rfl (lenOf pd_8 rfl) rfl (by show 2 * 0 + _ ≤ _; exact Nat.le_of_eq rfl) (hb hby at_395)) fun T156 L156 v156 X156 hQ156 => ?_
        obtain ⟨rfl, N156, e156⟩ := hQ156
        replace N0 := Fr.app N0 N156
        show own_Go p e below _ (T156.setTop (mkF m 398 (lA7_ p0 q1 q2 q3 q4 q5 hi aa bb o0 b1_102 (fmax q3 q2) q2 aa bb) [(.long bb)]))
        refine own_by (B := T156.setTop (mkF m 406 (lA7_ p0 q1 q2 q3 q4 q5 hi aa bb o0 b1_102 (fmax q3 q2) q2 aa bb) [(.ref o0)])) (fun t k => ?_) ?_
        · refine XS.lload X156.here hx rfl (hb hby at_398) rfl ?_
          refine XS.lcmp X156.here hx rfl (hb hby at_400) rfl ?_
          show Steps p.tables e below (T156.setTop (mkF m 401 (lA7_ p0 q1 q2 q3 q4 q5 hi aa bb o0 b1_102 (fmax q3 q2) q2 aa bb) [(.int (lcmpW bb bb))])) _
          refine XS.ifNo X156.here hx rfl (hb hby at_401) rfl ((if0 _ _).trans (teq ((lw_eq _ _).mpr (rfl : bb = bb))).2) ?_
          show Steps p.tables e below (T156.setTop (mkF m 404 (lA7_ p0 q1 q2 q3 q4 q5 hi aa bb o0 b1_102 (fmax q3 q2) q2 aa bb) [])) _
          refine XS.aload X156.here hx rfl (hb hby at_404) rfl rfl ?_
          exact k
        refine own_cc (own_callV X156 hx hZ (y := y5_) (z := y5_) hown (hW hw 73 rfl) (hW hw 74 rfl) (notFace_of_selects (args := #[]) (mvT hZ (hW hw 76 rfl))) (hW hw 76 rfl) (hW hw 75 rfl) (hW hw 3 rfl) (hW hw 77 rfl) dE_ (rm12_27 l Z a0 hw [] o0 aP kP (0 : Int64) q3 q2 T102.heap n0 Z0 F_prices_o0 F_best_o0 V_aP) e156 0 dE_ dE_ dE_ dE_ rfl (by rw [hml]; rfl) o0 E_o0 [] [] rfl (lenOf pd_8 rfl) rfl (by show 2 * 0 + _ ≤ _; exact Nat.le_of_eq rfl) (hb hby at_406)) fun T158 L158 v158 X158 hQ158 => ?_
        obtain ⟨rfl, N158, e158⟩ := hQ158
        replace N0 := Fr.app N0 N158
        show own_Go p e below _ (T158.setTop (mkF m 409 (lA7_ p0 q1 q2 q3 q4 q5 hi aa bb o0 b1_102 (fmax q3 q2) q2 aa bb) [(.long q3)]))
        refine own_by (B := T158.setTop (mkF m 417 (lA7_ p0 q1 q2 q3 q4 q5 hi aa bb o0 b1_102 (fmax q3 q2) q2 aa bb) [(.ref o0)])) (fun t k => ?_) ?_
        · refine XS.lload X158.here hx rfl (hb hby at_409) rfl ?_
          refine XS.lcmp X158.here hx rfl (hb hby at_411) rfl ?_
          show Steps p.tables e below (T158.setTop (mkF m 412 (lA7_ p0 q1 q2 q3 q4 q5 hi aa bb o0 b1_102 (fmax q3 q2) q2 aa bb) [(.int (lcmpW q3 (fmax q3 q2)))])) _
          refine XS.ifNo X158.here hx rfl (hb hby at_412) rfl ((if0 _ _).trans (teq ((lw_eq _ _).mpr (Eq.symm (own_fmax_q3_t q2 q3 (own_lt4 q2 q3 hi hc13 hc36 hc104 hhi))))).2) ?_
          show Steps p.tables e below (T158.setTop (mkF m 415 (lA7_ p0 q1 q2 q3 q4 q5 hi aa bb o0 b1_102 (fmax q3 q2) q2 aa bb) [])) _
          refine XS.aload X158.here hx rfl (hb hby at_415) rfl rfl ?_
          exact k
        refine own_cc (own_callV X158 hx hZ (y := y6_) (z := y6_) hown (hW hw 78 rfl) (hW hw 79 rfl) (notFace_of_selects (args := #[]) (mvT hZ (hW hw 81 rfl))) (hW hw 81 rfl) (hW hw 80 rfl) (hW hw 3 rfl) (hW hw 82 rfl) dE_ (rm13_28 l Z a0 hw [] o0 aS kS (0 : Int64) aa bb T102.heap n0 Z0 F_sizes_o0 F_best_o0 V_aS) e158 0 dE_ dE_ dE_ dE_ rfl (by rw [hml]; rfl) o0 E_o0 [] [] rfl (lenOf pd_8 rfl) rfl (by show 2 * 0 + _ ≤ _; exact Nat.le_of_eq rfl) (hb hby at_417)) fun T160 L160 v160 X160 hQ160 => ?_
        obtain ⟨rfl, N160, e160⟩ := hQ160
        replace N0 := Fr.app N0 N160
        show own_Go p e below _ (T160.setTop (mkF m 420 (lA7_ p0 q1 q2 q3 q4 q5 hi aa bb o0 b1_102 (fmax q3 q2) q2 aa bb) [(.long aa)]))
        refine own_by (B := T160.setTop (mkF m 431 (lA7_ p0 q1 q2 q3 q4 q5 hi aa bb o0 b1_102 (fmax q3 q2) q2 aa bb) [(.int (1 : Int32))])) (fun t k => ?_) ?_
        · refine XS.lload X160.here hx rfl (hb hby at_420) rfl ?_
          refine XS.lcmp X160.here hx rfl (hb hby at_422) rfl ?_
          show Steps p.tables e below (T160.setTop (mkF m 423 (lA7_ p0 q1 q2 q3 q4 q5 hi aa bb o0 b1_102 (fmax q3 q2) q2 aa bb) [(.int (lcmpW aa aa))])) _
          refine XS.ifNo X160.here hx rfl (hb hby at_423) rfl ((if0 _ _).trans (teq ((lw_eq _ _).mpr (rfl : aa = aa))).2) ?_
          show Steps p.tables e below (T160.setTop (mkF m 426 (lA7_ p0 q1 q2 q3 q4 q5 hi aa bb o0 b1_102 (fmax q3 q2) q2 aa bb) [])) _
          refine XS.iconst X160.here hx rfl (hb hby at_426) ?_
          refine XS.goto X160.here hx rfl (pc0 := 427) (pc' := 431) rfl (hb hby at_427) dE_ dE_ ?_
          show Steps p.tables e below (T160.setTop (mkF m 431 (lA7_ p0 q1 q2 q3 q4 q5 hi aa bb o0 b1_102 (fmax q3 q2) q2 aa bb) [(.int (1 : Int32))])) _
          exact k
        exact own_retN X160 Blk hx (t := .boolean) Bret (by simp) (hb hby at_431) (by
            try rw [show T160.heap = T102.heap from e160]
            exact ⟨rfl, N0⟩) dE_ dE_

theorem d1_0 : dC28_ 0 (.aload_n 0, 1) := by decide +kernel
theorem d1_1 : dC28_ 1 (.invokespecial 3, 3) := by decide +kernel
theorem d1_4 : dC28_ 4 (.aload_n 0, 1) := by decide +kernel
theorem d1_5 : dC28_ 5 (.bipush 8, 2) := by decide +kernel
theorem d1_7 : dC28_ 7 (.newarray .long, 2) := by decide +kernel
theorem d1_9 : dC28_ 9 (.putfield 11, 3) := by decide +kernel
theorem d1_12 : dC28_ 12 (.aload_n 0, 1) := by decide +kernel
theorem d1_13 : dC28_ 13 (.bipush 8, 2) := by decide +kernel
theorem d1_15 : dC28_ 15 (.newarray .long, 2) := by decide +kernel
theorem d1_17 : dC28_ 17 (.putfield 15, 3) := by decide +kernel
theorem d1_20 : dC28_ 20 (.aload_n 0, 1) := by decide +kernel
theorem d1_21 : dC28_ 21 (.bipush 8, 2) := by decide +kernel
theorem d1_23 : dC28_ 23 (.newarray .int, 2) := by decide +kernel
theorem d1_25 : dC28_ 25 (.putfield 18, 3) := by decide +kernel
theorem d1_28 : dC28_ 28 (.aload_n 0, 1) := by decide +kernel
theorem d1_29 : dC28_ 29 (.bipush 8, 2) := by decide +kernel
theorem d1_31 : dC28_ 31 (.newarray .int, 2) := by decide +kernel
theorem d1_33 : dC28_ 33 (.putfield 22, 3) := by decide +kernel
theorem d1_36 : dC28_ 36 (.aload_n 0, 1) := by decide +kernel
theorem d1_37 : dC28_ 37 (.bipush 8, 2) := by decide +kernel
theorem d1_39 : dC28_ 39 (.newarray .byte, 2) := by decide +kernel
theorem d1_41 : dC28_ 41 (.putfield 25, 3) := by decide +kernel
theorem d1_44 : dC28_ 44 (.aload_n 0, 1) := by decide +kernel
theorem d1_45 : dC28_ 45 (.iconst 0, 1) := by decide +kernel
theorem d1_46 : dC28_ 46 (.putfield 29, 3) := by decide +kernel
theorem d1_49 : dC28_ 49 (.aload_n 0, 1) := by decide +kernel
theorem d1_50 : dC28_ 50 (.iconst 0, 1) := by decide +kernel
theorem d1_51 : dC28_ 51 (.putfield 33, 3) := by decide +kernel
theorem d1_54 : dC28_ 54 (.aload_n 0, 1) := by decide +kernel
theorem d1_55 : dC28_ 55 (.iconst 1, 1) := by decide +kernel
theorem d1_56 : dC28_ 56 (.putfield 36, 3) := by decide +kernel
theorem d1_59 : dC28_ 59 (.aload_n 0, 1) := by decide +kernel
theorem d1_60 : dC28_ 60 (.iconst 0, 1) := by decide +kernel
theorem d1_61 : dC28_ 61 (.putfield 39, 3) := by decide +kernel
theorem d1_64 : dC28_ 64 (.aload_n 0, 1) := by decide +kernel
theorem d1_65 : dC28_ 65 (.iload_n 1, 1) := by decide +kernel
theorem d1_66 : dC28_ 66 (.putfield 42, 3) := by decide +kernel
theorem d1_69 : dC28_ 69 (.return_, 1) := by decide +kernel
theorem pn_1 : plainName "com/example/tidebook/tidebook/book/PriceLevels" = true := by first | (simp [plainName, overriddenIn]; done) | decide +kernel
theorem ef_1 (m : MethodId) (x0 : Addr) (x1 : Int32) : entryFrame m #[(.ref x0), (.int x1)] 2 = mkF m 0 #[rv x0, iv x1] [] := by first | (simp [entryFrame, mkF, argsToLocals, Value.category]; done) | rfl
def Q1_57 (Z : State) (o0 : Addr) (i0 i1 : Int32) (i2 i3 : Int32) (i4 i5 i6 : Int32) (h0 : Heap) (n0 : Nat) (v : Option Value) (h : Heap) (L : List Loc) : Prop := ∃ b3 : Addr, ∃ b5 : Addr, ∃ b7 : Addr, ∃ b9 : Addr, ∃ b11 : Addr, ∃ k3 : ClassId, ∃ k5 : ClassId, ∃ k7 : ClassId, ∃ k9 : ClassId, ∃ k11 : ClassId, v = none ∧ Fr n0 L ∧ Keep h0 h [o0] ∧ Exa Z h o0 c0_ ∧ Fld Z h o0 c0_ "prices" "[J" (.ref b3) ∧ Fld Z h o0 c0_ "sizes" "[J" (.ref b5) ∧ Fld Z h o0 c0_ "left" "[I" (.ref b7) ∧ Fld Z h o0 c0_ "right" "[I" (.ref b9) ∧ Fld Z h o0 c0_ "heights" "[B" (.ref b11) ∧ Fld Z h o0 c0_ "root" "I" oZ ∧ Fld Z h o0 c0_ "best" "I" oZ ∧ Fld Z h o0 c0_ "unused" "I" (.int (1 : Int32)) ∧ Fld Z h o0 c0_ "free" "I" oZ ∧ Fld Z h o0 c0_ "highestFirst" "Z" (.int (nar .boolean i0)) ∧ Fld Z h o0 c0_ "count" "I" (.int i6) ∧ Arv Z h b3 k3 .long (8 : Int32) [] oY ∧ Arv Z h b5 k5 .long (8 : Int32) [] oY ∧ Arv Z h b7 k7 .int (8 : Int32) [] oZ ∧ Arv Z h b9 k9 .int (8 : Int32) [] oZ ∧ Arv Z h b11 k11 .byte (8 : Int32) [] oZ ∧ h0.size ≤ b3 ∧ h0.size ≤ b5 ∧ h0.size ≤ b7 ∧ h0.size ≤ b9 ∧ h0.size ≤ b11 ∧ b3 ≠ b5 ∧ b3 ≠ b7 ∧ b3 ≠ b9 ∧ b3 ≠ b11 ∧ b5 ≠ b7 ∧ b5 ≠ b9 ∧ b5 ≠ b11 ∧ b7 ≠ b9 ∧ b7 ≠ b11 ∧ b9 ≠ b11
set_option maxRecDepth 65536 in
set_option maxHeartbeats 40000000 in
theorem rm1_57 (l : Launch) (Z : State) (a0 : Array Value) (hw : oW_ a0 Z) (ws : List Jvm.Cond) (o0 : Addr) (i0 i1 : Int32) (i2 i3 : Int32) (i4 i5 i6 : Int32) (h0 : Heap) (n0 : Nat) (Z0 : n0 ≤ h0.size) (g_o0 : n0 ≤ o0) (E_o0 : Exa Z h0 o0 c0_) (F_prices_o0 : Fld Z h0 o0 c0_ "prices" "[J" .null) (F_sizes_o0 : Fld Z h0 o0 c0_ "sizes" "[J" .null) (F_left_o0 : Fld Z h0 o0 c0_ "left" "[I" .null) (F_right_o0 : Fld Z h0 o0 c0_ "right" "[I" .null) (F_heights_o0 : Fld Z h0 o0 c0_ "heights" "[B" .null) (F_root_o0 : Fld Z h0 o0 c0_ "root" "I" (.int i1)) (F_best_o0 : Fld Z h0 o0 c0_ "best" "I" (.int i2)) (F_unused_o0 : Fld Z h0 o0 c0_ "unused" "I" (.int i3)) (F_free_o0 : Fld Z h0 o0 c0_ "free" "I" (.int i4)) (F_highestFirst_o0 : Fld Z h0 o0 c0_ "highestFirst" "Z" (.int i5)) (F_count_o0 : Fld Z h0 o0 c0_ "count" "I" (.int i6)) :
    MetFree l y31_ (head1 (Jvm.Cond.code y31_ prog_3_method_1_code 2 none :: ws) (rM_ 1 5 40 12)) (fun a U => a = #[(.ref o0), (.int i0)] ∧ Z.Warmed39 U.vm ∧ U.heap = h0) (fun _ _ _ _ _ => True) (fun _ U o U' => ∃ v L, o = .returned v ∧ Q1_57 Z o0 i0 i1 i2 i3 i4 i5 i6 h0 n0 v U'.heap L ∧ FrameEnd U o U' L (rM_ 1 5 40 12).cells (rM_ 1 5 40 12).slots) := by
  refine MetFree.of_bodySF (plainFor_of_name pn_1) hisR ?_
  intro p e s m args below meth c s₁ Bd hml0 hP hK
  obtain ⟨rfl, hZ, hh⟩ := hP
  have hx := Bd.exec
  have hby := Bd.bytes
  have hml : c.maxLocals = 2 := hml0
  have hown : s.vm.findClass c0_ = some m.cls := findClass_of_methodNamed Bd.named
  have hnm := (name_of_methodNamed Bd.named Bd.method).1
  have X0 : Stand p l e (rM_ 1 5 40 12) s m #[(.ref o0), (.int i0)] below meth c s₁ [] 0 0 := Stand.of_body Bd
  have e0 : s₁.heap = h0 := by rw [← hh, Bd.state]; rfl
  have N0 := Fr.nil n0
  have K0 : Keep h0 h0 [o0] := Keep.refl h0 _
  change own_Go p e below (own_Post s (Q1_57 Z o0 i0 i1 i2 i3 i4 i5 i6 h0 n0) (rM_ 1 5 40 12).cells (rM_ 1 5 40 12).slots) (s₁.setTop (entryFrame m #[(.ref o0), (.int i0)] 2))
  refine own_by (fun t k => castTop (ef_1 m o0 i0) k) ?_
  show own_Go p e below _ (s₁.setTop (mkF m 0 #[rv o0, iv i0] []))
  refine own_by (B := s₁.setTop (mkF m 1 #[rv o0, iv i0] [(.ref o0)])) (fun t k => ?_) ?_
  · refine XS.aloadN X0.here hx rfl (hb hby d1_0) rfl rfl ?_
    exact k
  refine own_c1 (initO X0 hx hZ hown (hW hw 7 rfl) (hW hw 8 rfl) (hW hw 9 rfl) e0 rfl (by rw [hml]; rfl) rfl (hb hby d1_1) dE_ (W := 0) (by show 2 * 0 + _ ≤ _; exact Nat.le_of_eq rfl) dE_) fun T2 X2 e2 => ?_
  show own_Go p e below _ (T2.setTop (mkF m 4 #[rv o0, iv i0] []))
  refine own_by (B := T2.setTop (mkF m 7 #[rv o0, iv i0] [(.int (8 : Int32)), (.ref o0)])) (fun t k => ?_) ?_
  · refine XS.aloadN X2.here hx rfl (hb hby d1_4) rfl rfl ?_
    refine XS.bipush X2.here hx rfl (hb hby d1_5) ?_
    exact k
  obtain ⟨T3, h3, k3, X3, e3, E3, A3, st3⟩ := newP X2 hx hZ (hW hw 10 rfl) e2 (g := (mkF m 7 #[rv o0, iv i0] [(.int (8 : Int32)), (.ref o0)])) rfl (hb hby d1_7) rfl dE_ (cap := 8) dE_ dE_ dE_ dE_
  obtain ⟨b3, g3⟩ : ∃ z, z = h0.size := ⟨_, rfl⟩
  rw [← g3] at A3 st3
  have g_b3 : n0 ≤ b3 := Nat.le_trans Z0 (Nat.le_of_eq g3.symm)
  have sz_b3 : h0.size ≤ b3 := Nat.le_trans K0.1 (Nat.le_of_eq g3.symm)
  have ne_o0_b3 : o0 ≠ b3 := Nat.ne_of_lt (Nat.lt_of_lt_of_le E_o0.lt (Nat.le_of_eq g3.symm))
  replace E_o0 := E_o0.ext E3
  replace F_prices_o0 := F_prices_o0.ext E3
  replace F_sizes_o0 := F_sizes_o0.ext E3
  replace F_left_o0 := F_left_o0.ext E3
  replace F_right_o0 := F_right_o0.ext E3
  replace F_heights_o0 := F_heights_o0.ext E3
  replace F_root_o0 := F_root_o0.ext E3
  replace F_best_o0 := F_best_o0.ext E3
  replace F_unused_o0 := F_unused_o0.ext E3
  replace F_free_o0 := F_free_o0.ext E3
  replace F_highestFirst_o0 := F_highestFirst_o0.ext E3
  replace F_count_o0 := F_count_o0.ext E3
  replace K0 := K0.ext E3
  replace Z0 := Nat.le_trans Z0 E3.1
  have V_b3 : Arv Z h3 b3 k3 .long (8 : Int32) [] oY := Arv.new A3 dE_
  refine own_by st3 ?_
  show own_Go p e below _ (T3.setTop (mkF m 9 #[rv o0, iv i0] [(.ref b3), (.ref o0)]))
  refine own_c2 (putF X3 hx hZ hown (host := "") (Or.inl (hW hw 11 rfl)) Via.refl e3 F_prices_o0 E_o0 (Or.inl (hW hw 12 rfl)) (hW hw 2 rfl) (ty := (.array .long)) dE_ rfl rfl rfl rfl (hb hby d1_9)) fun T4 h4 X4 e4 W4 => ?_
  replace F_prices_o0 := F_prices_o0.same W4
  replace E_o0 := E_o0.wr W4
  replace F_sizes_o0 := F_sizes_o0.other W4 (Or.inr (sn48 hw))
  replace F_left_o0 := F_left_o0.other W4 (Or.inr (sn49 hw))
  replace F_right_o0 := F_right_o0.other W4 (Or.inr (sn50 hw))
  replace F_heights_o0 := F_heights_o0.other W4 (Or.inr (sn51 hw))
  replace F_root_o0 := F_root_o0.other W4 (Or.inr (sn52 hw))
  replace F_best_o0 := F_best_o0.other W4 (Or.inr (sn53 hw))
  replace F_unused_o0 := F_unused_o0.other W4 (Or.inr (sn54 hw))
  replace F_free_o0 := F_free_o0.other W4 (Or.inr (sn55 hw))
  replace F_highestFirst_o0 := F_highestFirst_o0.other W4 (Or.inr (sn56 hw))
  replace F_count_o0 := F_count_o0.other W4 (Or.inr (sn57 hw))
  replace V_b3 := V_b3.other W4 (Ne.symm ne_o0_b3)
  replace K0 := K0.wr W4 (Or.inl (List.mem_of_getElem? (i := 0) rfl))
  replace Z0 := Nat.le_trans Z0 (Keep.of_wr W4).1
  replace N0 := Fr.snoc X4 N0 g_o0
  show own_Go p e below _ (T4.setTop (mkF m 12 #[rv o0, iv i0] []))
  refine own_by (B := T4.setTop (mkF m 15 #[rv o0, iv i0] [(.int (8 : Int32)), (.ref o0)])) (fun t k => ?_) ?_
  · refine XS.aloadN X4.here hx rfl (hb hby d1_12) rfl rfl ?_
    refine XS.bipush X4.here hx rfl (hb hby d1_13) ?_
    exact k
  obtain ⟨T5, h5, k5, X5, e5, E5, A5, st5⟩ := newP X4 hx hZ (hW hw 10 rfl) e4 (g := (mkF m 15 #[rv o0, iv i0] [(.int (8 : Int32)), (.ref o0)])) rfl (hb hby d1_15) rfl dE_ (cap := 8) dE_ dE_ dE_ dE_
  obtain ⟨b5, g5⟩ : ∃ z, z = h4.size := ⟨_, rfl⟩
  rw [← g5] at A5 st5
  have g_b5 : n0 ≤ b5 := Nat.le_trans Z0 (Nat.le_of_eq g5.symm)
  have sz_b5 : h0.size ≤ b5 := Nat.le_trans K0.1 (Nat.le_of_eq g5.symm)
  have ne_o0_b5 : o0 ≠ b5 := Nat.ne_of_lt (Nat.lt_of_lt_of_le E_o0.lt (Nat.le_of_eq g5.symm))
  have ne_b3_b5 : b3 ≠ b5 := Nat.ne_of_lt (Nat.lt_of_lt_of_le V_b3.lt (Nat.le_of_eq g5.symm))
  replace E_o0 := E_o0.ext E5
  replace F_prices_o0 := F_prices_o0.ext E5
  replace F_sizes_o0 := F_sizes_o0.ext E5
  replace F_left_o0 := F_left_o0.ext E5
  replace F_right_o0 := F_right_o0.ext E5
  replace F_heights_o0 := F_heights_o0.ext E5
  replace F_root_o0 := F_root_o0.ext E5
  replace F_best_o0 := F_best_o0.ext E5
  replace F_unused_o0 := F_unused_o0.ext E5
  replace F_free_o0 := F_free_o0.ext E5
  replace F_highestFirst_o0 := F_highestFirst_o0.ext E5
  replace F_count_o0 := F_count_o0.ext E5
  replace V_b3 := V_b3.ext E5
  replace K0 := K0.ext E5
  replace Z0 := Nat.le_trans Z0 E5.1
  have V_b5 : Arv Z h5 b5 k5 .long (8 : Int32) [] oY := Arv.new A5 dE_
  refine own_by st5 ?_
  show own_Go p e below _ (T5.setTop (mkF m 17 #[rv o0, iv i0] [(.ref b5), (.ref o0)]))
  refine own_c2 (putF X5 hx hZ hown (host := "") (Or.inl (hW hw 13 rfl)) Via.refl e5 F_sizes_o0 E_o0 (Or.inl (hW hw 14 rfl)) (hW hw 2 rfl) (ty := (.array .long)) dE_ rfl rfl rfl rfl (hb hby d1_17)) fun T6 h6 X6 e6 W6 => ?_
  replace F_sizes_o0 := F_sizes_o0.same W6
  replace E_o0 := E_o0.wr W6
  replace F_prices_o0 := F_prices_o0.other W6 (Or.inr (sn58 hw))
  replace F_left_o0 := F_left_o0.other W6 (Or.inr (sn59 hw))
  replace F_right_o0 := F_right_o0.other W6 (Or.inr (sn60 hw))
  replace F_heights_o0 := F_heights_o0.other W6 (Or.inr (sn61 hw))
  replace F_root_o0 := F_root_o0.other W6 (Or.inr (sn62 hw))
  replace F_best_o0 := F_best_o0.other W6 (Or.inr (sn63 hw))
  replace F_unused_o0 := F_unused_o0.other W6 (Or.inr (sn64 hw))
  replace F_free_o0 := F_free_o0.other W6 (Or.inr (sn65 hw))
  replace F_highestFirst_o0 := F_highestFirst_o0.other W6 (Or.inr (sn66 hw))
  replace F_count_o0 := F_count_o0.other W6 (Or.inr (sn67 hw))
  replace V_b3 := V_b3.other W6 (Ne.symm ne_o0_b3)
  replace V_b5 := V_b5.other W6 (Ne.symm ne_o0_b5)
  replace K0 := K0.wr W6 (Or.inl (List.mem_of_getElem? (i := 0) rfl))
  replace Z0 := Nat.le_trans Z0 (Keep.of_wr W6).1
  replace N0 := Fr.snoc X6 N0 g_o0
  show own_Go p e below _ (T6.setTop (mkF m 20 #[rv o0, iv i0] []))
  refine own_by (B := T6.setTop (mkF m 23 #[rv o0, iv i0] [(.int (8 : Int32)), (.ref o0)])) (fun t k => ?_) ?_
  · refine XS.aloadN X6.here hx rfl (hb hby d1_20) rfl rfl ?_
    refine XS.bipush X6.here hx rfl (hb hby d1_21) ?_
    exact k
  obtain ⟨T7, h7, k7, X7, e7, E7, A7, st7⟩ := newP X6 hx hZ (hW hw 15 rfl) e6 (g := (mkF m 23 #[rv o0, iv i0] [(.int (8 : Int32)), (.ref o0)])) rfl (hb hby d1_23) rfl dE_ (cap := 8) dE_ dE_ dE_ dE_
  obtain ⟨b7, g7⟩ : ∃ z, z = h6.size := ⟨_, rfl⟩
  rw [← g7] at A7 st7
  have g_b7 : n0 ≤ b7 := Nat.le_trans Z0 (Nat.le_of_eq g7.symm)
  have sz_b7 : h0.size ≤ b7 := Nat.le_trans K0.1 (Nat.le_of_eq g7.symm)
  have ne_o0_b7 : o0 ≠ b7 := Nat.ne_of_lt (Nat.lt_of_lt_of_le E_o0.lt (Nat.le_of_eq g7.symm))
  have ne_b3_b7 : b3 ≠ b7 := Nat.ne_of_lt (Nat.lt_of_lt_of_le V_b3.lt (Nat.le_of_eq g7.symm))
  have ne_b5_b7 : b5 ≠ b7 := Nat.ne_of_lt (Nat.lt_of_lt_of_le V_b5.lt (Nat.le_of_eq g7.symm))
  replace E_o0 := E_o0.ext E7
  replace F_prices_o0 := F_prices_o0.ext E7
  replace F_sizes_o0 := F_sizes_o0.ext E7
  replace F_left_o0 := F_left_o0.ext E7
  replace F_right_o0 := F_right_o0.ext E7
  replace F_heights_o0 := F_heights_o0.ext E7
  replace F_root_o0 := F_root_o0.ext E7
  replace F_best_o0 := F_best_o0.ext E7
  replace F_unused_o0 := F_unused_o0.ext E7
  replace F_free_o0 := F_free_o0.ext E7
  replace F_highestFirst_o0 := F_highestFirst_o0.ext E7
  replace F_count_o0 := F_count_o0.ext E7
  replace V_b3 := V_b3.ext E7
  replace V_b5 := V_b5.ext E7
  replace K0 := K0.ext E7
  replace Z0 := Nat.le_trans Z0 E7.1
  have V_b7 : Arv Z h7 b7 k7 .int (8 : Int32) [] oZ := Arv.new A7 dE_
  refine own_by st7 ?_
  show own_Go p e below _ (T7.setTop (mkF m 25 #[rv o0, iv i0] [(.ref b7), (.ref o0)]))
  refine own_c2 (putF X7 hx hZ hown (host := "") (Or.inl (hW hw 16 rfl)) Via.refl e7 F_left_o0 E_o0 (Or.inl (hW hw 17 rfl)) (hW hw 2 rfl) (ty := (.array .int)) dE_ rfl rfl rfl rfl (hb hby d1_25)) fun T8 h8 X8 e8 W8 => ?_
  replace F_left_o0 := F_left_o0.same W8
  replace E_o0 := E_o0.wr W8
  replace F_prices_o0 := F_prices_o0.other W8 (Or.inr (sn68 hw))
  replace F_sizes_o0 := F_sizes_o0.other W8 (Or.inr (sn69 hw))
  replace F_right_o0 := F_right_o0.other W8 (Or.inr (sn70 hw))
  replace F_heights_o0 := F_heights_o0.other W8 (Or.inr (sn71 hw))
  replace F_root_o0 := F_root_o0.other W8 (Or.inr (sn72 hw))
  replace F_best_o0 := F_best_o0.other W8 (Or.inr (sn73 hw))
  replace F_unused_o0 := F_unused_o0.other W8 (Or.inr (sn74 hw))
  replace F_free_o0 := F_free_o0.other W8 (Or.inr (sn75 hw))
  replace F_highestFirst_o0 := F_highestFirst_o0.other W8 (Or.inr (sn76 hw))
  replace F_count_o0 := F_count_o0.other W8 (Or.inr (sn77 hw))
  replace V_b3 := V_b3.other W8 (Ne.symm ne_o0_b3)
  replace V_b5 := V_b5.other W8 (Ne.symm ne_o0_b5)
  replace V_b7 := V_b7.other W8 (Ne.symm ne_o0_b7)
  replace K0 := K0.wr W8 (Or.inl (List.mem_of_getElem? (i := 0) rfl))
  replace Z0 := Nat.le_trans Z0 (Keep.of_wr W8).1
  replace N0 := Fr.snoc X8 N0 g_o0
  show own_Go p e below _ (T8.setTop (mkF m 28 #[rv o0, iv i0] []))
  refine own_by (B := T8.setTop (mkF m 31 #[rv o0, iv i0] [(.int (8 : Int32)), (.ref o0)])) (fun t k => ?_) ?_
  · refine XS.aloadN X8.here hx rfl (hb hby d1_28) rfl rfl ?_
    refine XS.bipush X8.here hx rfl (hb hby d1_29) ?_
    exact k
  obtain ⟨T9, h9, k9, X9, e9, E9, A9, st9⟩ := newP X8 hx hZ (hW hw 15 rfl) e8 (g := (mkF m 31 #[rv o0, iv i0] [(.int (8 : Int32)), (.ref o0)])) rfl (hb hby d1_31) rfl dE_ (cap := 8) dE_ dE_ dE_ dE_
  obtain ⟨b9, g9⟩ : ∃ z, z = h8.size := ⟨_, rfl⟩
  rw [← g9] at A9 st9
  have g_b9 : n0 ≤ b9 := Nat.le_trans Z0 (Nat.le_of_eq g9.symm)
  have sz_b9 : h0.size ≤ b9 := Nat.le_trans K0.1 (Nat.le_of_eq g9.symm)
  have ne_o0_b9 : o0 ≠ b9 := Nat.ne_of_lt (Nat.lt_of_lt_of_le E_o0.lt (Nat.le_of_eq g9.symm))
  have ne_b3_b9 : b3 ≠ b9 := Nat.ne_of_lt (Nat.lt_of_lt_of_le V_b3.lt (Nat.le_of_eq g9.symm))
  have ne_b5_b9 : b5 ≠ b9 := Nat.ne_of_lt (Nat.lt_of_lt_of_le V_b5.lt (Nat.le_of_eq g9.symm))
  have ne_b7_b9 : b7 ≠ b9 := Nat.ne_of_lt (Nat.lt_of_lt_of_le V_b7.lt (Nat.le_of_eq g9.symm))
  replace E_o0 := E_o0.ext E9
  replace F_prices_o0 := F_prices_o0.ext E9
  replace F_sizes_o0 := F_sizes_o0.ext E9
  replace F_left_o0 := F_left_o0.ext E9
  replace F_right_o0 := F_right_o0.ext E9
  replace F_heights_o0 := F_heights_o0.ext E9
  replace F_root_o0 := F_root_o0.ext E9
  replace F_best_o0 := F_best_o0.ext E9
  replace F_unused_o0 := F_unused_o0.ext E9
  replace F_free_o0 := F_free_o0.ext E9
  replace F_highestFirst_o0 := F_highestFirst_o0.ext E9
  replace F_count_o0 := F_count_o0.ext E9
  replace V_b3 := V_b3.ext E9
  replace V_b5 := V_b5.ext E9
  replace V_b7 := V_b7.ext E9
  replace K0 := K0.ext E9
  replace Z0 := Nat.le_trans Z0 E9.1
  have V_b9 : Arv Z h9 b9 k9 .int (8 : Int32) [] oZ := Arv.new A9 dE_
  refine own_by st9 ?_
  show own_Go p e below _ (T9.setTop (mkF m 33 #[rv o0, iv i0] [(.ref b9), (.ref o0)]))
  refine own_c2 (putF X9 hx hZ hown (host := "") (Or.inl (hW hw 18 rfl)) Via.refl e9 F_right_o0 E_o0 (Or.inl (hW hw 19 rfl)) (hW hw 2 rfl) (ty := (.array .int)) dE_ rfl rfl rfl rfl (hb hby d1_33)) fun T10 h10 X10 e10 W10 => ?_
  replace F_right_o0 := F_right_o0.same W10
  replace E_o0 := E_o0.wr W10
  replace F_prices_o0 := F_prices_o0.other W10 (Or.inr (sn78 hw))
  replace F_sizes_o0 := F_sizes_o0.other W10 (Or.inr (sn79 hw))
  replace F_left_o0 := F_left_o0.other W10 (Or.inr (sn80 hw))
  replace F_heights_o0 := F_heights_o0.other W10 (Or.inr (sn81 hw))
  replace F_root_o0 := F_root_o0.other W10 (Or.inr (sn82 hw))
  replace F_best_o0 := F_best_o0.other W10 (Or.inr (sn83 hw))
  replace F_unused_o0 := F_unused_o0.other W10 (Or.inr (sn84 hw))
  replace F_free_o0 := F_free_o0.other W10 (Or.inr (sn85 hw))
  replace F_highestFirst_o0 := F_highestFirst_o0.other W10 (Or.inr (sn86 hw))
  replace F_count_o0 := F_count_o0.other W10 (Or.inr (sn87 hw))
  replace V_b3 := V_b3.other W10 (Ne.symm ne_o0_b3)
  replace V_b5 := V_b5.other W10 (Ne.symm ne_o0_b5)
  replace V_b7 := V_b7.other W10 (Ne.symm ne_o0_b7)
  replace V_b9 := V_b9.other W10 (Ne.symm ne_o0_b9)
  replace K0 := K0.wr W10 (Or.inl (List.mem_of_getElem? (i := 0) rfl))
  replace Z0 := Nat.le_trans Z0 (Keep.of_wr W10).1
  replace N0 := Fr.snoc X10 N0 g_o0
  show own_Go p e below _ (T10.setTop (mkF m 36 #[rv o0, iv i0] []))
  refine own_by (B := T10.setTop (mkF m 39 #[rv o0, iv i0] [(.int (8 : Int32)), (.ref o0)])) (fun t k => ?_) ?_
  · refine XS.aloadN X10.here hx rfl (hb hby d1_36) rfl rfl ?_
    refine XS.bipush X10.here hx rfl (hb hby d1_37) ?_
    exact k
  obtain ⟨T11, h11, k11, X11, e11, E11, A11, st11⟩ := newP X10 hx hZ (hW hw 20 rfl) e10 (g := (mkF m 39 #[rv o0, iv i0] [(.int (8 : Int32)), (.ref o0)])) rfl (hb hby d1_39) rfl dE_ (cap := 8) dE_ dE_ dE_ dE_
  obtain ⟨b11, g11⟩ : ∃ z, z = h10.size := ⟨_, rfl⟩
  rw [← g11] at A11 st11
  have g_b11 : n0 ≤ b11 := Nat.le_trans Z0 (Nat.le_of_eq g11.symm)
  have sz_b11 : h0.size ≤ b11 := Nat.le_trans K0.1 (Nat.le_of_eq g11.symm)
  have ne_o0_b11 : o0 ≠ b11 := Nat.ne_of_lt (Nat.lt_of_lt_of_le E_o0.lt (Nat.le_of_eq g11.symm))
  have ne_b3_b11 : b3 ≠ b11 := Nat.ne_of_lt (Nat.lt_of_lt_of_le V_b3.lt (Nat.le_of_eq g11.symm))
  have ne_b5_b11 : b5 ≠ b11 := Nat.ne_of_lt (Nat.lt_of_lt_of_le V_b5.lt (Nat.le_of_eq g11.symm))
  have ne_b7_b11 : b7 ≠ b11 := Nat.ne_of_lt (Nat.lt_of_lt_of_le V_b7.lt (Nat.le_of_eq g11.symm))
  have ne_b9_b11 : b9 ≠ b11 := Nat.ne_of_lt (Nat.lt_of_lt_of_le V_b9.lt (Nat.le_of_eq g11.symm))
  replace E_o0 := E_o0.ext E11
  replace F_prices_o0 := F_prices_o0.ext E11
  replace F_sizes_o0 := F_sizes_o0.ext E11
  replace F_left_o0 := F_left_o0.ext E11
  replace F_right_o0 := F_right_o0.ext E11
  replace F_heights_o0 := F_heights_o0.ext E11
  replace F_root_o0 := F_root_o0.ext E11
  replace F_best_o0 := F_best_o0.ext E11
  replace F_unused_o0 := F_unused_o0.ext E11
  replace F_free_o0 := F_free_o0.ext E11
  replace F_highestFirst_o0 := F_highestFirst_o0.ext E11
  replace F_count_o0 := F_count_o0.ext E11
  replace V_b3 := V_b3.ext E11
  replace V_b5 := V_b5.ext E11
  replace V_b7 := V_b7.ext E11
  replace V_b9 := V_b9.ext E11
  replace K0 := K0.ext E11
  replace Z0 := Nat.le_trans Z0 E11.1
  have V_b11 : Arv Z h11 b11 k11 .byte (8 : Int32) [] oZ := Arv.new A11 dE_
  refine own_by st11 ?_
  show own_Go p e below _ (T11.setTop (mkF m 41 #[rv o0, iv i0] [(.ref b11), (.ref o0)]))
  refine own_c2 (putF X11 hx hZ hown (host := "") (Or.inl (hW hw 21 rfl)) Via.refl e11 F_heights_o0 E_o0 (Or.inl (hW hw 22 rfl)) (hW hw 2 rfl) (ty := (.array .byte)) dE_ rfl rfl rfl rfl (hb hby d1_41)) fun T12 h12 X12 e12 W12 => ?_
  replace F_heights_o0 := F_heights_o0.same W12
  replace E_o0 := E_o0.wr W12
  replace F_prices_o0 := F_prices_o0.other W12 (Or.inr (sn88 hw))
  replace F_sizes_o0 := F_sizes_o0.other W12 (Or.inr (sn89 hw))
  replace F_left_o0 := F_left_o0.other W12 (Or.inr (sn90 hw))
  replace F_right_o0 := F_right_o0.other W12 (Or.inr (sn91 hw))
  replace F_root_o0 := F_root_o0.other W12 (Or.inr (sn92 hw))
  replace F_best_o0 := F_best_o0.other W12 (Or.inr (sn93 hw))
  replace F_unused_o0 := F_unused_o0.other W12 (Or.inr (sn94 hw))
  replace F_free_o0 := F_free_o0.other W12 (Or.inr (sn95 hw))
  replace F_highestFirst_o0 := F_highestFirst_o0.other W12 (Or.inr (sn96 hw))
  replace F_count_o0 := F_count_o0.other W12 (Or.inr (sn97 hw))
  replace V_b3 := V_b3.other W12 (Ne.symm ne_o0_b3)
  replace V_b5 := V_b5.other W12 (Ne.symm ne_o0_b5)
  replace V_b7 := V_b7.other W12 (Ne.symm ne_o0_b7)
  replace V_b9 := V_b9.other W12 (Ne.symm ne_o0_b9)
  replace V_b11 := V_b11.other W12 (Ne.symm ne_o0_b11)
  replace K0 := K0.wr W12 (Or.inl (List.mem_of_getElem? (i := 0) rfl))
  replace Z0 := Nat.le_trans Z0 (Keep.of_wr W12).1
  replace N0 := Fr.snoc X12 N0 g_o0
  show own_Go p e below _ (T12.setTop (mkF m 44 #[rv o0, iv i0] []))
  refine own_by (B := T12.setTop (mkF m 46 #[rv o0, iv i0] [oZ, (.ref o0)])) (fun t k => ?_) ?_
  · refine XS.aloadN X12.here hx rfl (hb hby d1_44) rfl rfl ?_
    refine XS.iconst X12.here hx rfl (hb hby d1_45) ?_
    exact k
  refine own_c2 (putF X12 hx hZ hown (host := "") (Or.inl (hW hw 23 rfl)) Via.refl e12 F_root_o0 E_o0 (Or.inl (hW hw 24 rfl)) (hW hw 2 rfl) (ty := .int) dE_ rfl rfl rfl rfl (hb hby d1_46)) fun T13 h13 X13 e13 W13 => ?_
  replace F_root_o0 := F_root_o0.same W13
  replace E_o0 := E_o0.wr W13
  replace F_prices_o0 := F_prices_o0.other W13 (Or.inr (sn24 hw))
  replace F_sizes_o0 := F_sizes_o0.other W13 (Or.inr (sn25 hw))
  replace F_left_o0 := F_left_o0.other W13 (Or.inr (sn26 hw))
  replace F_right_o0 := F_right_o0.other W13 (Or.inr (sn27 hw))
  replace F_heights_o0 := F_heights_o0.other W13 (Or.inr (sn28 hw))
  replace F_best_o0 := F_best_o0.other W13 (Or.inr (sn29 hw))
  replace F_unused_o0 := F_unused_o0.other W13 (Or.inr (sn30 hw))
  replace F_free_o0 := F_free_o0.other W13 (Or.inr (sn31 hw))
  replace F_highestFirst_o0 := F_highestFirst_o0.other W13 (Or.inr (sn33 hw))
  replace F_count_o0 := F_count_o0.other W13 (Or.inr (sn32 hw))
  replace V_b3 := V_b3.other W13 (Ne.symm ne_o0_b3)
  replace V_b5 := V_b5.other W13 (Ne.symm ne_o0_b5)
  replace V_b7 := V_b7.other W13 (Ne.symm ne_o0_b7)
  replace V_b9 := V_b9.other W13 (Ne.symm ne_o0_b9)
  replace V_b11 := V_b11.other W13 (Ne.symm ne_o0_b11)
  replace K0 := K0.wr W13 (Or.inl (List.mem_of_getElem? (i := 0) rfl))
  replace Z0 := Nat.le_trans Z0 (Keep.of_wr W13).1
  replace N0 := Fr.snoc X13 N0 g_o0
  show own_Go p e below _ (T13.setTop (mkF m 49 #[rv o0, iv i0] []))
  refine own_by (B := T13.setTop (mkF m 51 #[rv o0, iv i0] [oZ, (.ref o0)])) (fun t k => ?_) ?_
  · refine XS.aloadN X13.here hx rfl (hb hby d1_49) rfl rfl ?_
    refine XS.iconst X13.here hx rfl (hb hby d1_50) ?_
    exact k
  refine own_c2 (putF X13 hx hZ hown (host := "") (Or.inl (hW hw 25 rfl)) Via.refl e13 F_best_o0 E_o0 (Or.inl (hW hw 26 rfl)) (hW hw 2 rfl) (ty := .int) dE_ rfl rfl rfl rfl (hb hby d1_51)) fun T14 h14 X14 e14 W14 => ?_
  replace F_best_o0 := F_best_o0.same W14
  replace E_o0 := E_o0.wr W14
  replace F_prices_o0 := F_prices_o0.other W14 (Or.inr (sn34 hw))
  replace F_sizes_o0 := F_sizes_o0.other W14 (Or.inr (sn35 hw))
  replace F_left_o0 := F_left_o0.other W14 (Or.inr (sn36 hw))
  replace F_right_o0 := F_right_o0.other W14 (Or.inr (sn37 hw))
  replace F_heights_o0 := F_heights_o0.other W14 (Or.inr (sn38 hw))
  replace F_root_o0 := F_root_o0.other W14 (Or.inr (sn39 hw))
  replace F_unused_o0 := F_unused_o0.other W14 (Or.inr (sn40 hw))
  replace F_free_o0 := F_free_o0.other W14 (Or.inr (sn41 hw))
  replace F_highestFirst_o0 := F_highestFirst_o0.other W14 (Or.inr (sn43 hw))
  replace F_count_o0 := F_count_o0.other W14 (Or.inr (sn42 hw))
  replace V_b3 := V_b3.other W14 (Ne.symm ne_o0_b3)
  replace V_b5 := V_b5.other W14 (Ne.symm ne_o0_b5)
  replace V_b7 := V_b7.other W14 (Ne.symm ne_o0_b7)
  replace V_b9 := V_b9.other W14 (Ne.symm ne_o0_b9)
  replace V_b11 := V_b11.other W14 (Ne.symm ne_o0_b11)
  replace K0 := K0.wr W14 (Or.inl (List.mem_of_getElem? (i := 0) rfl))
  replace Z0 := Nat.le_trans Z0 (Keep.of_wr W14).1
  replace N0 := Fr.snoc X14 N0 g_o0
  show own_Go p e below _ (T14.setTop (mkF m 54 #[rv o0, iv i0] []))
  refine own_by (B := T14.setTop (mkF m 56 #[rv o0, iv i0] [(.int (1 : Int32)), (.ref o0)])) (fun t k => ?_) ?_
  · refine XS.aloadN X14.here hx rfl (hb hby d1_54) rfl rfl ?_
    refine XS.iconst X14.here hx rfl (hb hby d1_55) ?_
    exact k
  refine own_c2 (putF X14 hx hZ hown (host := "") (Or.inl (hW hw 27 rfl)) Via.refl e14 F_unused_o0 E_o0 (Or.inl (hW hw 28 rfl)) (hW hw 2 rfl) (ty := .int) dE_ rfl rfl rfl rfl (hb hby d1_56)) fun T15 h15 X15 e15 W15 => ?_
  replace F_unused_o0 := F_unused_o0.same W15
  replace E_o0 := E_o0.wr W15
  replace F_prices_o0 := F_prices_o0.other W15 (Or.inr (sn4 hw))
  replace F_sizes_o0 := F_sizes_o0.other W15 (Or.inr (sn5 hw))
  replace F_left_o0 := F_left_o0.other W15 (Or.inr (sn6 hw))
  replace F_right_o0 := F_right_o0.other W15 (Or.inr (sn7 hw))
  replace F_heights_o0 := F_heights_o0.other W15 (Or.inr (sn8 hw))
  replace F_root_o0 := F_root_o0.other W15 (Or.inr (sn9 hw))
  replace F_best_o0 := F_best_o0.other W15 (Or.inr (sn10 hw))
  replace F_free_o0 := F_free_o0.other W15 (Or.inr (sn11 hw))
  replace F_highestFirst_o0 := F_highestFirst_o0.other W15 (Or.inr (sn13 hw))
  replace F_count_o0 := F_count_o0.other W15 (Or.inr (sn12 hw))
  replace V_b3 := V_b3.other W15 (Ne.symm ne_o0_b3)
  replace V_b5 := V_b5.other W15 (Ne.symm ne_o0_b5)
  replace V_b7 := V_b7.other W15 (Ne.symm ne_o0_b7)
  replace V_b9 := V_b9.other W15 (Ne.symm ne_o0_b9)
  replace V_b11 := V_b11.other W15 (Ne.symm ne_o0_b11)
  replace K0 := K0.wr W15 (Or.inl (List.mem_of_getElem? (i := 0) rfl))
  replace Z0 := Nat.le_trans Z0 (Keep.of_wr W15).1
  replace N0 := Fr.snoc X15 N0 g_o0
  show own_Go p e below _ (T15.setTop (mkF m 59 #[rv o0, iv i0] []))
  refine own_by (B := T15.setTop (mkF m 61 #[rv o0, iv i0] [oZ, (.ref o0)])) (fun t k => ?_) ?_
  · refine XS.aloadN X15.here hx rfl (hb hby d1_59) rfl rfl ?_
    refine XS.iconst X15.here hx rfl (hb hby d1_60) ?_
    exact k
  refine own_c2 (putF X15 hx hZ hown (host := "") (Or.inl (hW hw 29 rfl)) Via.refl e15 F_free_o0 E_o0 (Or.inl (hW hw 30 rfl)) (hW hw 2 rfl) (ty := .int) dE_ rfl rfl rfl rfl (hb hby d1_61)) fun T16 h16 X16 e16 W16 => ?_
  replace F_free_o0 := F_free_o0.same W16
  replace E_o0 := E_o0.wr W16
  replace F_prices_o0 := F_prices_o0.other W16 (Or.inr (sn98 hw))
  replace F_sizes_o0 := F_sizes_o0.other W16 (Or.inr (sn99 hw))
  replace F_left_o0 := F_left_o0.other W16 (Or.inr (sn100 hw))
  replace F_right_o0 := F_right_o0.other W16 (Or.inr (sn101 hw))
  replace F_heights_o0 := F_heights_o0.other W16 (Or.inr (sn102 hw))
  replace F_root_o0 := F_root_o0.other W16 (Or.inr (sn103 hw))
  replace F_best_o0 := F_best_o0.other W16 (Or.inr (sn104 hw))
  replace F_unused_o0 := F_unused_o0.other W16 (Or.inr (sn105 hw))
  replace F_highestFirst_o0 := F_highestFirst_o0.other W16 (Or.inr (sn106 hw))
  replace F_count_o0 := F_count_o0.other W16 (Or.inr (sn107 hw))
  replace V_b3 := V_b3.other W16 (Ne.symm ne_o0_b3)
  replace V_b5 := V_b5.other W16 (Ne.symm ne_o0_b5)
  replace V_b7 := V_b7.other W16 (Ne.symm ne_o0_b7)
  replace V_b9 := V_b9.other W16 (Ne.symm ne_o0_b9)
  replace V_b11 := V_b11.other W16 (Ne.symm ne_o0_b11)
  replace K0 := K0.wr W16 (Or.inl (List.mem_of_getElem? (i := 0) rfl))
  replace Z0 := Nat.le_trans Z0 (Keep.of_wr W16).1
  replace N0 := Fr.snoc X16 N0 g_o0
  show own_Go p e below _ (T16.setTop (mkF m 64 #[rv o0, iv i0] []))
  refine own_by (B := T16.setTop (mkF m 66 #[rv o0, iv i0] [(.int i0), (.ref o0)])) (fun t k => ?_) ?_
  · refine XS.aloadN X16.here hx rfl (hb hby d1_64) rfl rfl ?_
    refine XS.iloadN X16.here hx rfl (hb hby d1_65) rfl ?_
    exact k
  refine own_c2 (putFN X16 hx hZ hown (hW hw 31 rfl) Via.refl e16 F_highestFirst_o0 E_o0 (Or.inr ⟨(hW hw 32 rfl), rfl, hnm⟩) (hW hw 2 rfl) (ty := .boolean) (v' := (.int (nar .boolean i0))) dE_ rfl (fits_nar_bool _) rfl rfl (hb hby d1_66)) fun T17 h17 X17 e17 W17 => ?_
  replace F_highestFirst_o0 := F_highestFirst_o0.same W17
  replace E_o0 := E_o0.wr W17
  replace F_prices_o0 := F_prices_o0.other W17 (Or.inr (sn108 hw))
  replace F_sizes_o0 := F_sizes_o0.other W17 (Or.inr (sn109 hw))
  replace F_left_o0 := F_left_o0.other W17 (Or.inr (sn110 hw))
  replace F_right_o0 := F_right_o0.other W17 (Or.inr (sn111 hw))
  replace F_heights_o0 := F_heights_o0.other W17 (Or.inr (sn112 hw))
  replace F_root_o0 := F_root_o0.other W17 (Or.inr (sn113 hw))
  replace F_best_o0 := F_best_o0.other W17 (Or.inr (sn114 hw))
  replace F_unused_o0 := F_unused_o0.other W17 (Or.inr (sn115 hw))
  replace F_free_o0 := F_free_o0.other W17 (Or.inr (sn116 hw))
  replace F_count_o0 := F_count_o0.other W17 (Or.inr (sn117 hw))
  replace V_b3 := V_b3.other W17 (Ne.symm ne_o0_b3)
  replace V_b5 := V_b5.other W17 (Ne.symm ne_o0_b5)
  replace V_b7 := V_b7.other W17 (Ne.symm ne_o0_b7)
  replace V_b9 := V_b9.other W17 (Ne.symm ne_o0_b9)
  replace V_b11 := V_b11.other W17 (Ne.symm ne_o0_b11)
  replace K0 := K0.wr W17 (Or.inl (List.mem_of_getElem? (i := 0) rfl))
  replace Z0 := Nat.le_trans Z0 (Keep.of_wr W17).1
  replace N0 := Fr.snoc X17 N0 g_o0
  show own_Go p e below _ (T17.setTop (mkF m 69 #[rv o0, iv i0] []))
  exact own_retV X17 Bd.notSynchronized hx Bd.returns (hb hby d1_69) (by
      try rw [show T17.heap = h17 from e17]
      exact ⟨b3, b5, b7, b9, b11, k3, k5, k7, k9, k11, rfl, N0, K0, E_o0, F_prices_o0, F_sizes_o0, F_left_o0, F_right_o0, F_heights_o0, F_root_o0, F_best_o0, F_unused_o0, F_free_o0, F_highestFirst_o0, F_count_o0, V_b3, V_b5, V_b7, V_b9, V_b11, sz_b3, sz_b5, sz_b7, sz_b9, sz_b11, ne_b3_b5, ne_b3_b7, ne_b3_b9, ne_b3_b11, ne_b5_b7, ne_b5_b9, ne_b5_b11, ne_b7_b9, ne_b7_b11, ne_b9_b11⟩) dE_ dE_

theorem d11_0 : dC29_ 0 (.aload_n 0, 1) := by decide +kernel
theorem d11_1 : dC29_ 1 (.iconst 0, 1) := by decide +kernel
theorem d11_2 : dC29_ 2 (.putfield 29, 3) := by decide +kernel
theorem d11_5 : dC29_ 5 (.aload_n 0, 1) := by decide +kernel
theorem d11_6 : dC29_ 6 (.iconst 0, 1) := by decide +kernel
theorem d11_7 : dC29_ 7 (.putfield 33, 3) := by decide +kernel
theorem d11_10 : dC29_ 10 (.aload_n 0, 1) := by decide +kernel
theorem d11_11 : dC29_ 11 (.iconst 1, 1) := by decide +kernel
theorem d11_12 : dC29_ 12 (.putfield 36, 3) := by decide +kernel
theorem d11_15 : dC29_ 15 (.aload_n 0, 1) := by decide +kernel
theorem d11_16 : dC29_ 16 (.iconst 0, 1) := by decide +kernel
theorem d11_17 : dC29_ 17 (.putfield 39, 3) := by decide +kernel
theorem d11_20 : dC29_ 20 (.aload_n 0, 1) := by decide +kernel
theorem d11_21 : dC29_ 21 (.iconst 0, 1) := by decide +kernel
theorem d11_22 : dC29_ 22 (.putfield 57, 3) := by decide +kernel
theorem d11_25 : dC29_ 25 (.return_, 1) := by decide +kernel
theorem pn_11 : plainName "com/example/tidebook/tidebook/book/PriceLevels" = true := by first | (simp [plainName, overriddenIn]; done) | decide +kernel
theorem ef_11 (m : MethodId) (x0 : Addr) : entryFrame m #[(.ref x0)] 1 = mkF m 0 #[rv x0] [] := by first | (simp [entryFrame, mkF, argsToLocals, Value.category]; done) | rfl
def Q11_58 (Z : State) (o0 o2 : Addr) (o3 o4 : Addr) (o5 o6 : Addr) (i0 i1 : Int32) (i2 i3 : Int32) (i4 i5 : Int32) (h0 : Heap) (n0 : Nat) (v : Option Value) (h : Heap) (L : List Loc) : Prop := v = none ∧ Fr n0 L ∧ Keep h0 h [o0] ∧ Exa Z h o0 c0_ ∧ Fld Z h o0 c0_ "prices" "[J" (.ref o2) ∧ Fld Z h o0 c0_ "sizes" "[J" (.ref o3) ∧ Fld Z h o0 c0_ "left" "[I" (.ref o4) ∧ Fld Z h o0 c0_ "right" "[I" (.ref o5) ∧ Fld Z h o0 c0_ "heights" "[B" (.ref o6) ∧ Fld Z h o0 c0_ "root" "I" oZ ∧ Fld Z h o0 c0_ "best" "I" oZ ∧ Fld Z h o0 c0_ "unused" "I" (.int (1 : Int32)) ∧ Fld Z h o0 c0_ "free" "I" oZ ∧ Fld Z h o0 c0_ "count" "I" oZ ∧ Fld Z h o0 c0_ "highestFirst" "Z" (.int i5)
set_option maxRecDepth 65536 in
set_option maxHeartbeats 40000000 in
theorem rm11_58 (l : Launch) (Z : State) (a0 : Array Value) (hw : oW_ a0 Z) (ws : List Jvm.Cond) (o0 o2 : Addr) (o3 o4 : Addr) (o5 o6 : Addr) (i0 i1 : Int32) (i2 i3 : Int32) (i4 i5 : Int32) (h0 : Heap) (n0 : Nat) (Z0 : n0 ≤ h0.size) (g_o0 : n0 ≤ o0) (E_o0 : Exa Z h0 o0 c0_) (F_prices_o0 : Fld Z h0 o0 c0_ "prices" "[J" (.ref o2)) (F_sizes_o0 : Fld Z h0 o0 c0_ "sizes" "[J" (.ref o3)) (F_left_o0 : Fld Z h0 o0 c0_ "left" "[I" (.ref o4)) (F_right_o0 : Fld Z h0 o0 c0_ "right" "[I" (.ref o5)) (F_heights_o0 : Fld Z h0 o0 c0_ "heights" "[B" (.ref o6)) (F_root_o0 : Fld Z h0 o0 c0_ "root" "I" (.int i0)) (F_best_o0 : Fld Z h0 o0 c0_ "best" "I" (.int i1)) (F_unused_o0 : Fld Z h0 o0 c0_ "unused" "I" (.int i2)) (F_free_o0 : Fld Z h0 o0 c0_ "free" "I" (.int i3)) (F_count_o0 : Fld Z h0 o0 c0_ "count" "I" (.int i4)) (F_highestFirst_o0 : Fld Z h0 o0 c0_ "highestFirst" "Z" (.int i5)) :
    MetFree l y32_ (head1 (Jvm.Cond.code y32_ prog_3_method_5_code 1 none :: ws) (rM_ 0 0 0 0)) (fun a U => a = #[(.ref o0)] ∧ Z.Warmed39 U.vm ∧ U.heap = h0) (fun _ _ _ _ _ => True) (fun _ U o U' => ∃ v L, o = .returned v ∧ Q11_58 Z o0 o2 o3 o4 o5 o6 i0 i1 i2 i3 i4 i5 h0 n0 v U'.heap L ∧ FrameEnd U o U' L (rM_ 0 0 0 0).cells (rM_ 0 0 0 0).slots) := by
  refine MetFree.of_bodySF (plainFor_of_name pn_11) hisR ?_
  intro p e s m args below meth c s₁ Bd hml0 hP hK
  obtain ⟨rfl, hZ, hh⟩ := hP
  have hx := Bd.exec
  have hby := Bd.bytes
  have hml : c.maxLocals = 1 := hml0
  have hown : s.vm.findClass c0_ = some m.cls := findClass_of_methodNamed Bd.named
  have hnm := (name_of_methodNamed Bd.named Bd.method).1
  have X0 : Stand p l e (rM_ 0 0 0 0) s m #[(.ref o0)] below meth c s₁ [] 0 0 := Stand.of_body Bd
  have e0 : s₁.heap = h0 := by rw [← hh, Bd.state]; rfl
  have N0 := Fr.nil n0
  have K0 : Keep h0 h0 [o0] := Keep.refl h0 _
  change own_Go p e below (own_Post s (Q11_58 Z o0 o2 o3 o4 o5 o6 i0 i1 i2 i3 i4 i5 h0 n0) (rM_ 0 0 0 0).cells (rM_ 0 0 0 0).slots) (s₁.setTop (entryFrame m #[(.ref o0)] 1))
  refine own_by (fun t k => castTop (ef_11 m o0) k) ?_
  show own_Go p e below _ (s₁.setTop (mkF m 0 #[rv o0] []))
  refine own_by (B := s₁.setTop (mkF m 2 #[rv o0] [oZ, (.ref o0)])) (fun t k => ?_) ?_
  · refine XS.aloadN X0.here hx rfl (hb hby d11_0) rfl rfl ?_
    refine XS.iconst X0.here hx rfl (hb hby d11_1) ?_
    exact k
  refine own_c2 (putF X0 hx hZ hown (host := "") (Or.inl (hW hw 23 rfl)) Via.refl e0 F_root_o0 E_o0 (Or.inl (hW hw 24 rfl)) (hW hw 2 rfl) (ty := .int) dE_ rfl rfl rfl rfl (hb hby d11_2)) fun T1 h1 X1 e1 W1 => ?_
  replace F_root_o0 := F_root_o0.same W1
  replace E_o0 := E_o0.wr W1
  replace F_prices_o0 := F_prices_o0.other W1 (Or.inr (sn24 hw))
  replace F_sizes_o0 := F_sizes_o0.other W1 (Or.inr (sn25 hw))
  replace F_left_o0 := F_left_o0.other W1 (Or.inr (sn26 hw))
  replace F_right_o0 := F_right_o0.other W1 (Or.inr (sn27 hw))
  replace F_heights_o0 := F_heights_o0.other W1 (Or.inr (sn28 hw))
  replace F_best_o0 := F_best_o0.other W1 (Or.inr (sn29 hw))
  replace F_unused_o0 := F_unused_o0.other W1 (Or.inr (sn30 hw))
  replace F_free_o0 := F_free_o0.other W1 (Or.inr (sn31 hw))
  replace F_count_o0 := F_count_o0.other W1 (Or.inr (sn32 hw))
  replace F_highestFirst_o0 := F_highestFirst_o0.other W1 (Or.inr (sn33 hw))
  replace K0 := K0.wr W1 (Or.inl (List.mem_of_getElem? (i := 0) rfl))
  replace Z0 := Nat.le_trans Z0 (Keep.of_wr W1).1
  replace N0 := Fr.snoc X1 N0 g_o0
  show own_Go p e below _ (T1.setTop (mkF m 5 #[rv o0] []))
  refine own_by (B := T1.setTop (mkF m 7 #[rv o0] [oZ, (.ref o0)])) (fun t k => ?_) ?_
  · refine XS.aloadN X1.here hx rfl (hb hby d11_5) rfl rfl ?_
    refine XS.iconst X1.here hx rfl (hb hby d11_6) ?_
    exact k
  refine own_c2 (putF X1 hx hZ hown (host := "") (Or.inl (hW hw 25 rfl)) Via.refl e1 F_best_o0 E_o0 (Or.inl (hW hw 26 rfl)) (hW hw 2 rfl) (ty := .int) dE_ rfl rfl rfl rfl (hb hby d11_7)) fun T2 h2 X2 e2 W2 => ?_
  replace F_best_o0 := F_best_o0.same W2
  replace E_o0 := E_o0.wr W2
  replace F_prices_o0 := F_prices_o0.other W2 (Or.inr (sn34 hw))
  replace F_sizes_o0 := F_sizes_o0.other W2 (Or.inr (sn35 hw))
  replace F_left_o0 := F_left_o0.other W2 (Or.inr (sn36 hw))
  replace F_right_o0 := F_right_o0.other W2 (Or.inr (sn37 hw))
  replace F_heights_o0 := F_heights_o0.other W2 (Or.inr (sn38 hw))
  replace F_root_o0 := F_root_o0.other W2 (Or.inr (sn39 hw))
  replace F_unused_o0 := F_unused_o0.other W2 (Or.inr (sn40 hw))
  replace F_free_o0 := F_free_o0.other W2 (Or.inr (sn41 hw))
  replace F_count_o0 := F_count_o0.other W2 (Or.inr (sn42 hw))
  replace F_highestFirst_o0 := F_highestFirst_o0.other W2 (Or.inr (sn43 hw))
  replace K0 := K0.wr W2 (Or.inl (List.mem_of_getElem? (i := 0) rfl))
  replace Z0 := Nat.le_trans Z0 (Keep.of_wr W2).1
  replace N0 := Fr.snoc X2 N0 g_o0
  show own_Go p e below _ (T2.setTop (mkF m 10 #[rv o0] []))
  refine own_by (B := T2.setTop (mkF m 12 #[rv o0] [(.int (1 : Int32)), (.ref o0)])) (fun t k => ?_) ?_
  · refine XS.aloadN X2.here hx rfl (hb hby d11_10) rfl rfl ?_
    refine XS.iconst X2.here hx rfl (hb hby d11_11) ?_
    exact k
  refine own_c2 (putF X2 hx hZ hown (host := "") (Or.inl (hW hw 27 rfl)) Via.refl e2 F_unused_o0 E_o0 (Or.inl (hW hw 28 rfl)) (hW hw 2 rfl) (ty := .int) dE_ rfl rfl rfl rfl (hb hby d11_12)) fun T3 h3 X3 e3 W3 => ?_
  replace F_unused_o0 := F_unused_o0.same W3
  replace E_o0 := E_o0.wr W3
  replace F_prices_o0 := F_prices_o0.other W3 (Or.inr (sn4 hw))
  replace F_sizes_o0 := F_sizes_o0.other W3 (Or.inr (sn5 hw))
  replace F_left_o0 := F_left_o0.other W3 (Or.inr (sn6 hw))
  replace F_right_o0 := F_right_o0.other W3 (Or.inr (sn7 hw))
  replace F_heights_o0 := F_heights_o0.other W3 (Or.inr (sn8 hw))
  replace F_root_o0 := F_root_o0.other W3 (Or.inr (sn9 hw))
  replace F_best_o0 := F_best_o0.other W3 (Or.inr (sn10 hw))
  replace F_free_o0 := F_free_o0.other W3 (Or.inr (sn11 hw))
  replace F_count_o0 := F_count_o0.other W3 (Or.inr (sn12 hw))
  replace F_highestFirst_o0 := F_highestFirst_o0.other W3 (Or.inr (sn13 hw))
  replace K0 := K0.wr W3 (Or.inl (List.mem_of_getElem? (i := 0) rfl))
  replace Z0 := Nat.le_trans Z0 (Keep.of_wr W3).1
  replace N0 := Fr.snoc X3 N0 g_o0
  show own_Go p e below _ (T3.setTop (mkF m 15 #[rv o0] []))
  refine own_by (B := T3.setTop (mkF m 17 #[rv o0] [oZ, (.ref o0)])) (fun t k => ?_) ?_
  · refine XS.aloadN X3.here hx rfl (hb hby d11_15) rfl rfl ?_
    refine XS.iconst X3.here hx rfl (hb hby d11_16) ?_
    exact k
  refine own_c2 (putF X3 hx hZ hown (host := "") (Or.inl (hW hw 29 rfl)) Via.refl e3 F_free_o0 E_o0 (Or.inl (hW hw 30 rfl)) (hW hw 2 rfl) (ty := .int) dE_ rfl rfl rfl rfl (hb hby d11_17)) fun T4 h4 X4 e4 W4 => ?_
  replace F_free_o0 := F_free_o0.same W4
  replace E_o0 := E_o0.wr W4
  replace F_prices_o0 := F_prices_o0.other W4 (Or.inr (sn98 hw))
  replace F_sizes_o0 := F_sizes_o0.other W4 (Or.inr (sn99 hw))
  replace F_left_o0 := F_left_o0.other W4 (Or.inr (sn100 hw))
  replace F_right_o0 := F_right_o0.other W4 (Or.inr (sn101 hw))
  replace F_heights_o0 := F_heights_o0.other W4 (Or.inr (sn102 hw))
  replace F_root_o0 := F_root_o0.other W4 (Or.inr (sn103 hw))
  replace F_best_o0 := F_best_o0.other W4 (Or.inr (sn104 hw))
  replace F_unused_o0 := F_unused_o0.other W4 (Or.inr (sn105 hw))
  replace F_count_o0 := F_count_o0.other W4 (Or.inr (sn107 hw))
  replace F_highestFirst_o0 := F_highestFirst_o0.other W4 (Or.inr (sn106 hw))
  replace K0 := K0.wr W4 (Or.inl (List.mem_of_getElem? (i := 0) rfl))
  replace Z0 := Nat.le_trans Z0 (Keep.of_wr W4).1
  replace N0 := Fr.snoc X4 N0 g_o0
  show own_Go p e below _ (T4.setTop (mkF m 20 #[rv o0] []))
  refine own_by (B := T4.setTop (mkF m 22 #[rv o0] [oZ, (.ref o0)])) (fun t k => ?_) ?_
  · refine XS.aloadN X4.here hx rfl (hb hby d11_20) rfl rfl ?_
    refine XS.iconst X4.here hx rfl (hb hby d11_21) ?_
    exact k
  refine own_c2 (putF X4 hx hZ hown (host := "") (Or.inl (hW hw 46 rfl)) Via.refl e4 F_count_o0 E_o0 (Or.inl (hW hw 47 rfl)) (hW hw 2 rfl) (ty := .int) dE_ rfl rfl rfl rfl (hb hby d11_22)) fun T5 h5 X5 e5 W5 => ?_
  replace F_count_o0 := F_count_o0.same W5
  replace E_o0 := E_o0.wr W5
  replace F_prices_o0 := F_prices_o0.other W5 (Or.inr (sn14 hw))
  replace F_sizes_o0 := F_sizes_o0.other W5 (Or.inr (sn15 hw))
  replace F_left_o0 := F_left_o0.other W5 (Or.inr (sn16 hw))
  replace F_right_o0 := F_right_o0.other W5 (Or.inr (sn17 hw))
  replace F_heights_o0 := F_heights_o0.other W5 (Or.inr (sn18 hw))
  replace F_root_o0 := F_root_o0.other W5 (Or.inr (sn19 hw))
  replace F_best_o0 := F_best_o0.other W5 (Or.inr (sn20 hw))
  replace F_unused_o0 := F_unused_o0.other W5 (Or.inr (sn21 hw))
  replace F_free_o0 := F_free_o0.other W5 (Or.inr (sn22 hw))
  replace F_highestFirst_o0 := F_highestFirst_o0.other W5 (Or.inr (sn23 hw))
  replace K0 := K0.wr W5 (Or.inl (List.mem_of_getElem? (i := 0) rfl))
  replace Z0 := Nat.le_trans Z0 (Keep.of_wr W5).1
  replace N0 := Fr.snoc X5 N0 g_o0
  show own_Go p e below _ (T5.setTop (mkF m 25 #[rv o0] []))
  exact own_retV X5 Bd.notSynchronized hx Bd.returns (hb hby d11_25) (by
      try rw [show T5.heap = h5 from e5]
      exact ⟨rfl, N0, K0, E_o0, F_prices_o0, F_sizes_o0, F_left_o0, F_right_o0, F_heights_o0, F_root_o0, F_best_o0, F_unused_o0, F_free_o0, F_count_o0, F_highestFirst_o0⟩) dE_ dE_

theorem d32_0 : dC30_ 0 (.aload_n 0, 1) := by decide +kernel
theorem d32_1 : dC30_ 1 (.getfield 22, 3) := by decide +kernel
theorem d32_4 : dC30_ 4 (.iload_n 1, 1) := by decide +kernel
theorem d32_5 : dC30_ 5 (.aload_n 0, 1) := by decide +kernel
theorem d32_6 : dC30_ 6 (.getfield 39, 3) := by decide +kernel
theorem d32_9 : dC30_ 9 (.iastore, 1) := by decide +kernel
theorem d32_10 : dC30_ 10 (.aload_n 0, 1) := by decide +kernel
theorem d32_11 : dC30_ 11 (.iload_n 1, 1) := by decide +kernel
theorem d32_12 : dC30_ 12 (.putfield 39, 3) := by decide +kernel
theorem d32_15 : dC30_ 15 (.aload_n 0, 1) := by decide +kernel
theorem d32_16 : dC30_ 16 (.dup, 1) := by decide +kernel
theorem d32_17 : dC30_ 17 (.getfield 57, 3) := by decide +kernel
theorem d32_20 : dC30_ 20 (.iconst 1, 1) := by decide +kernel
theorem d32_21 : dC30_ 21 (.isub, 1) := by decide +kernel
theorem d32_22 : dC30_ 22 (.putfield 57, 3) := by decide +kernel
theorem d32_25 : dC30_ 25 (.return_, 1) := by decide +kernel
theorem pn_32 : plainName "com/example/tidebook/tidebook/book/PriceLevels" = true := by first | (simp [plainName, overriddenIn]; done) | decide +kernel
theorem ef_32 (m : MethodId) (x0 : Addr) (x1 : Int32) : entryFrame m #[(.ref x0), (.int x1)] 2 = mkF m 0 #[rv x0, iv x1] [] := by first | (simp [entryFrame, mkF, argsToLocals, Value.category]; done) | rfl
def Q32_59 (Z : State) (o0 o2 : Addr) (o3 o4 : Addr) (o5 o6 : Addr) (i0 i1 : Int32) (i2 i3 : Int32) (i4 i5 : Int32) (k3 : ClassId) (i9 i10 i11 : Int32) (h0 : Heap) (n0 : Nat) (v : Option Value) (h : Heap) (L : List Loc) : Prop := v = none ∧ Fr n0 L ∧ Keep h0 h [o5, o0] ∧ Arv Z h o5 k3 .int (8 : Int32) [(.int i9), (.int i3), (.int i11)] oZ ∧ Exa Z h o0 c0_ ∧ Fld Z h o0 c0_ "prices" "[J" (.ref o2) ∧ Fld Z h o0 c0_ "sizes" "[J" (.ref o3) ∧ Fld Z h o0 c0_ "left" "[I" (.ref o4) ∧ Fld Z h o0 c0_ "right" "[I" (.ref o5) ∧ Fld Z h o0 c0_ "heights" "[B" (.ref o6) ∧ Fld Z h o0 c0_ "root" "I" (.int i0) ∧ Fld Z h o0 c0_ "best" "I" (.int i1) ∧ Fld Z h o0 c0_ "unused" "I" (.int i2) ∧ Fld Z h o0 c0_ "free" "I" (.int (1 : Int32)) ∧ Fld Z h o0 c0_ "count" "I" (.int (i4 - (1 : Int32))) ∧ Fld Z h o0 c0_ "highestFirst" "Z" (.int i5)
set_option maxRecDepth 65536 in
set_option maxHeartbeats 40000000 in
theorem rm32_59 (l : Launch) (Z : State) (a0 : Array Value) (hw : oW_ a0 Z) (ws : List Jvm.Cond) (o0 o2 : Addr) (o3 o4 : Addr) (o5 o6 : Addr) (i0 i1 : Int32) (i2 i3 : Int32) (i4 i5 : Int32) (k3 : ClassId) (i9 i10 i11 : Int32) (h0 : Heap) (n0 : Nat) (Z0 : n0 ≤ h0.size) (g_o0 : n0 ≤ o0) (E_o0 : Exa Z h0 o0 c0_) (F_prices_o0 : Fld Z h0 o0 c0_ "prices" "[J" (.ref o2)) (F_sizes_o0 : Fld Z h0 o0 c0_ "sizes" "[J" (.ref o3)) (F_left_o0 : Fld Z h0 o0 c0_ "left" "[I" (.ref o4)) (F_right_o0 : Fld Z h0 o0 c0_ "right" "[I" (.ref o5)) (F_heights_o0 : Fld Z h0 o0 c0_ "heights" "[B" (.ref o6)) (F_root_o0 : Fld Z h0 o0 c0_ "root" "I" (.int i0)) (F_best_o0 : Fld Z h0 o0 c0_ "best" "I" (.int i1)) (F_unused_o0 : Fld Z h0 o0 c0_ "unused" "I" (.int i2)) (F_free_o0 : Fld Z h0 o0 c0_ "free" "I" (.int i3)) (F_count_o0 : Fld Z h0 o0 c0_ "count" "I" (.int i4)) (F_highestFirst_o0 : Fld Z h0 o0 c0_ "highestFirst" "Z" (.int i5)) (g_o5 : n0 ≤ o5) (V_o5 : Arv Z h0 o5 k3 .int (8 : Int32) [(.int i9), (.int i10), (.int i11)] oZ) :
    MetFree l y33_ (head1 (Jvm.Cond.code y33_ prog_3_method_15_code 2 none :: ws) (rM_ 0 0 0 0)) (fun a U => a = #[(.ref o0), (.int (1 : Int32))] ∧ Z.Warmed39 U.vm ∧ U.heap = h0) (fun _ _ _ _ _ => True) (fun _ U o U' => ∃ v L, o = .returned v ∧ Q32_59 Z o0 o2 o3 o4 o5 o6 i0 i1 i2 i3 i4 i5 k3 i9 i10 i11 h0 n0 v U'.heap L ∧ FrameEnd U o U' L (rM_ 0 0 0 0).cells (rM_ 0 0 0 0).slots) := by
  refine MetFree.of_bodySF (plainFor_of_name pn_32) hisR ?_
  intro p e s m args below meth c s₁ Bd hml0 hP hK
  obtain ⟨rfl, hZ, hh⟩ := hP
  have hx := Bd.exec
  have hby := Bd.bytes
  have hml : c.maxLocals = 2 := hml0
  have hown : s.vm.findClass c0_ = some m.cls := findClass_of_methodNamed Bd.named
  have hnm := (name_of_methodNamed Bd.named Bd.method).1
  have X0 : Stand p l e (rM_ 0 0 0 0) s m #[(.ref o0), (.int (1 : Int32))] below meth c s₁ [] 0 0 := Stand.of_body Bd
  have e0 : s₁.heap = h0 := by rw [← hh, Bd.state]; rfl
  have N0 := Fr.nil n0
  have K0 : Keep h0 h0 [o5, o0] := Keep.refl h0 _
  change own_Go p e below (own_Post s (Q32_59 Z o0 o2 o3 o4 o5 o6 i0 i1 i2 i3 i4 i5 k3 i9 i10 i11 h0 n0) (rM_ 0 0 0 0).cells (rM_ 0 0 0 0).slots) (s₁.setTop (entryFrame m #[(.ref o0), (.int (1 : Int32))] 2))
  refine own_by (fun t k => castTop (ef_32 m o0 (1 : Int32)) k) ?_
  show own_Go p e below _ (s₁.setTop (mkF m 0 #[rv o0, iv (1 : Int32)] []))
  refine own_by (B := s₁.setTop (mkF m 1 #[rv o0, iv (1 : Int32)] [(.ref o0)])) (fun t k => ?_) ?_
  · refine XS.aloadN X0.here hx rfl (hb hby d32_0) rfl rfl ?_
    exact k
  refine own_c1 (getF X0 hx hZ hown (host := "") (Or.inl (hW hw 18 rfl)) Via.refl e0 F_right_o0 rfl rfl (hb hby d32_1)) fun T1 X1 e1 => ?_
  show own_Go p e below _ (T1.setTop (mkF m 4 #[rv o0, iv (1 : Int32)] [(.ref o5)]))
  refine own_by (B := T1.setTop (mkF m 6 #[rv o0, iv (1 : Int32)] [(.ref o0), (.int (1 : Int32)), (.ref o5)])) (fun t k => ?_) ?_
  · refine XS.iloadN X1.here hx rfl (hb hby d32_4) rfl ?_
    refine XS.aloadN X1.here hx rfl (hb hby d32_5) rfl rfl ?_
    exact k
  refine own_c1 (getF X1 hx hZ hown (host := "") (Or.inl (hW hw 29 rfl)) Via.refl e1 F_free_o0 rfl rfl (hb hby d32_6)) fun T2 X2 e2 => ?_
  show own_Go p e below _ (T2.setTop (mkF m 9 #[rv o0, iv (1 : Int32)] [(.int i3), (.int (1 : Int32)), (.ref o5)]))
  have nx1 : o0 ≠ o5 := (own_nev E_o0 (hW hw 2 rfl) V_o5)
  obtain ⟨cl3, Ar3, q3, S3, N3, H3, G3⟩ := V_o5
  have hin3 : ¬ ((1 : Int32) < 0 ∨ cl3.slots.size ≤ ((1 : Int32)).toNatClampNeg) := inb_of S3 ⟨by decide, by decide⟩
  refine own_c2 (stI X2 hx hZ e2 Ar3 (j := (1 : Int32)) hin3 rfl rfl (hb hby d32_9)) fun T3 h3 X3 e3 W3 => ?_
  replace V_o5 : Arv Z h3 o5 k3 .int (8 : Int32) [(.int i9), (.int i3), (.int i11)] oZ := Arv.set Ar3 q3 S3 N3 H3 G3 rfl W3 1 rfl nB_
  replace E_o0 := E_o0.wr W3
  replace F_prices_o0 := F_prices_o0.other W3 (Or.inl nx1)
  replace F_sizes_o0 := F_sizes_o0.other W3 (Or.inl nx1)
  replace F_left_o0 := F_left_o0.other W3 (Or.inl nx1)
  replace F_right_o0 := F_right_o0.other W3 (Or.inl nx1)
  replace F_heights_o0 := F_heights_o0.other W3 (Or.inl nx1)
  replace F_root_o0 := F_root_o0.other W3 (Or.inl nx1)
  replace F_best_o0 := F_best_o0.other W3 (Or.inl nx1)
  replace F_unused_o0 := F_unused_o0.other W3 (Or.inl nx1)
  replace F_free_o0 := F_free_o0.other W3 (Or.inl nx1)
  replace F_count_o0 := F_count_o0.other W3 (Or.inl nx1)
  replace F_highestFirst_o0 := F_highestFirst_o0.other W3 (Or.inl nx1)
  replace K0 := K0.wr W3 (Or.inl (List.mem_of_getElem? (i := 0) rfl))
  replace Z0 := Nat.le_trans Z0 (Keep.of_wr W3).1
  replace N0 := Fr.snoc X3 N0 g_o5
  show own_Go p e below _ (T3.setTop (mkF m 10 #[rv o0, iv (1 : Int32)] []))
  refine own_by (B := T3.setTop (mkF m 12 #[rv o0, iv (1 : Int32)] [(.int (1 : Int32)), (.ref o0)])) (fun t k => ?_) ?_
  · refine XS.aloadN X3.here hx rfl (hb hby d32_10) rfl rfl ?_
    refine XS.iloadN X3.here hx rfl (hb hby d32_11) rfl ?_
    exact k
  refine own_c2 (putF X3 hx hZ hown (host := "") (Or.inl (hW hw 29 rfl)) Via.refl e3 F_free_o0 E_o0 (Or.inl (hW hw 30 rfl)) (hW hw 2 rfl) (ty := .int) dE_ rfl rfl rfl rfl (hb hby d32_12)) fun T4 h4 X4 e4 W4 => ?_
  replace F_free_o0 := F_free_o0.same W4
  replace E_o0 := E_o0.wr W4
  replace F_prices_o0 := F_prices_o0.other W4 (Or.inr (sn98 hw))
  replace F_sizes_o0 := F_sizes_o0.other W4 (Or.inr (sn99 hw))
  replace F_left_o0 := F_left_o0.other W4 (Or.inr (sn100 hw))
  replace F_right_o0 := F_right_o0.other W4 (Or.inr (sn101 hw))
  replace F_heights_o0 := F_heights_o0.other W4 (Or.inr (sn102 hw))
  replace F_root_o0 := F_root_o0.other W4 (Or.inr (sn103 hw))
  replace F_best_o0 := F_best_o0.other W4 (Or.inr (sn104 hw))
  replace F_unused_o0 := F_unused_o0.other W4 (Or.inr (sn105 hw))
  replace F_count_o0 := F_count_o0.other W4 (Or.inr (sn107 hw))
  replace F_highestFirst_o0 := F_highestFirst_o0.other W4 (Or.inr (sn106 hw))
  replace V_o5 := V_o5.other W4 (Ne.symm nx1)
  replace K0 := K0.wr W4 (Or.inl (List.mem_of_getElem? (i := 1) rfl))
  replace Z0 := Nat.le_trans Z0 (Keep.of_wr W4).1
  replace N0 := Fr.snoc X4 N0 g_o0
  show own_Go p e below _ (T4.setTop (mkF m 15 #[rv o0, iv (1 : Int32)] []))
  refine own_by (B := T4.setTop (mkF m 17 #[rv o0, iv (1 : Int32)] [(.ref o0), (.ref o0)])) (fun t k => ?_) ?_
  · refine XS.aloadN X4.here hx rfl (hb hby d32_15) rfl rfl ?_
    refine XS.dup X4.here hx rfl (hb hby d32_16) rfl rfl ?_
    exact k
  refine own_c1 (getF X4 hx hZ hown (host := "") (Or.inl (hW hw 46 rfl)) Via.refl e4 F_count_o0 rfl rfl (hb hby d32_17)) fun T5 X5 e5 => ?_
  show own_Go p e below _ (T5.setTop (mkF m 20 #[rv o0, iv (1 : Int32)] [(.int i4), (.ref o0)]))
  refine own_by (B := T5.setTop (mkF m 22 #[rv o0, iv (1 : Int32)] [(.int (i4 - (1 : Int32))), (.ref o0)])) (fun t k => ?_) ?_
  · refine XS.iconst X5.here hx rfl (hb hby d32_20) ?_
    refine XS.isub X5.here hx rfl (hb hby d32_21) rfl ?_
    show Steps p.tables e below (T5.setTop (mkF m 22 #[rv o0, iv (1 : Int32)] [(.int (i4 - (1 : Int32))), (.ref o0)])) _
    exact k
  refine own_c2 (putF X5 hx hZ hown (host := "") (Or.inl (hW hw 46 rfl)) Via.refl e5 F_count_o0 E_o0 (Or.inl (hW hw 47 rfl)) (hW hw 2 rfl) (ty := .int) dE_ rfl rfl rfl rfl (hb hby d32_22)) fun T6 h6 X6 e6 W6 => ?_
  replace F_count_o0 := F_count_o0.same W6
  replace E_o0 := E_o0.wr W6
  replace F_prices_o0 := F_prices_o0.other W6 (Or.inr (sn14 hw))
  replace F_sizes_o0 := F_sizes_o0.other W6 (Or.inr (sn15 hw))
  replace F_left_o0 := F_left_o0.other W6 (Or.inr (sn16 hw))
  replace F_right_o0 := F_right_o0.other W6 (Or.inr (sn17 hw))
  replace F_heights_o0 := F_heights_o0.other W6 (Or.inr (sn18 hw))
  replace F_root_o0 := F_root_o0.other W6 (Or.inr (sn19 hw))
  replace F_best_o0 := F_best_o0.other W6 (Or.inr (sn20 hw))
  replace F_unused_o0 := F_unused_o0.other W6 (Or.inr (sn21 hw))
  replace F_free_o0 := F_free_o0.other W6 (Or.inr (sn22 hw))
  replace F_highestFirst_o0 := F_highestFirst_o0.other W6 (Or.inr (sn23 hw))
  replace V_o5 := V_o5.other W6 (Ne.symm nx1)
  replace K0 := K0.wr W6 (Or.inl (List.mem_of_getElem? (i := 1) rfl))
  replace Z0 := Nat.le_trans Z0 (Keep.of_wr W6).1
  replace N0 := Fr.snoc X6 N0 g_o0
  show own_Go p e below _ (T6.setTop (mkF m 25 #[rv o0, iv (1 : Int32)] []))
  exact own_retV X6 Bd.notSynchronized hx Bd.returns (hb hby d32_25) (by
      try rw [show T6.heap = h6 from e6]
      exact ⟨rfl, N0, K0, V_o5, E_o0, F_prices_o0, F_sizes_o0, F_left_o0, F_right_o0, F_heights_o0, F_root_o0, F_best_o0, F_unused_o0, F_free_o0, F_count_o0, F_highestFirst_o0⟩) dE_ dE_

theorem d31_0 : dC31_ 0 (.iload_n 1, 1) := by decide +kernel
theorem d31_1 : dC31_ 1 (.ifCond .ne 5, 3) := by decide +kernel
theorem d31_6 : dC31_ 6 (.aload_n 0, 1) := by decide +kernel
theorem d31_7 : dC31_ 7 (.lload_n 2, 1) := by decide +kernel
theorem d31_8 : dC31_ 8 (.aload_n 0, 1) := by decide +kernel
theorem d31_9 : dC31_ 9 (.getfield 11, 3) := by decide +kernel
theorem d31_12 : dC31_ 12 (.iload_n 1, 1) := by decide +kernel
theorem d31_13 : dC31_ 13 (.laload, 1) := by decide +kernel
theorem d31_14 : dC31_ 14 (.invokevirtual 84, 3) := by decide +kernel
theorem d31_17 : dC31_ 17 (.istore 4, 2) := by decide +kernel
theorem d31_19 : dC31_ 19 (.iload 4, 2) := by decide +kernel
theorem d31_21 : dC31_ 21 (.ifCond .ge 23, 3) := by decide +kernel
theorem d31_44 : dC31_ 44 (.iload 4, 2) := by decide +kernel
theorem d31_46 : dC31_ 46 (.ifCond .le 23, 3) := by decide +kernel
theorem d31_69 : dC31_ 69 (.aload_n 0, 1) := by decide +kernel
theorem d31_70 : dC31_ 70 (.getfield 18, 3) := by decide +kernel
theorem d31_73 : dC31_ 73 (.iload_n 1, 1) := by decide +kernel
theorem d31_74 : dC31_ 74 (.iaload, 1) := by decide +kernel
theorem d31_75 : dC31_ 75 (.ifCond .eq 12, 3) := by decide +kernel
theorem d31_87 : dC31_ 87 (.aload_n 0, 1) := by decide +kernel
theorem d31_88 : dC31_ 88 (.getfield 18, 3) := by decide +kernel
theorem d31_91 : dC31_ 91 (.iload_n 1, 1) := by decide +kernel
theorem d31_92 : dC31_ 92 (.iaload, 1) := by decide +kernel
theorem d31_93 : dC31_ 93 (.ifCond .ne 12, 3) := by decide +kernel
theorem d31_96 : dC31_ 96 (.aload_n 0, 1) := by decide +kernel
theorem d31_97 : dC31_ 97 (.getfield 22, 3) := by decide +kernel
theorem d31_100 : dC31_ 100 (.iload_n 1, 1) := by decide +kernel
theorem d31_101 : dC31_ 101 (.iaload, 1) := by decide +kernel
theorem d31_102 : dC31_ 102 (.goto 9, 3) := by decide +kernel
theorem d31_111 : dC31_ 111 (.istore 5, 2) := by decide +kernel
theorem d31_113 : dC31_ 113 (.aload_n 0, 1) := by decide +kernel
theorem d31_114 : dC31_ 114 (.iload_n 1, 1) := by decide +kernel
theorem d31_115 : dC31_ 115 (.invokevirtual 91, 3) := by decide +kernel
theorem d31_118 : dC31_ 118 (.iload 5, 2) := by decide +kernel
theorem d31_120 : dC31_ 120 (.ireturn, 1) := by decide +kernel
theorem pn_31 : plainName "com/example/tidebook/tidebook/book/PriceLevels" = true := by first | (simp [plainName, overriddenIn]; done) | decide +kernel
theorem ef_31 (m : MethodId) (x0 : Addr) (x1 : Int32) (x2 : Int64) : entryFrame m #[(.ref x0), (.int x1), (.long x2)] 6 = mkF m 0 (lA11_ x0 x1 x2) [] := by first | (simp [entryFrame, mkF, argsToLocals, Value.category]; done) | rfl
def Q31_60 (Z : State) (o0 : Addr) (j0 : Int64) (o2 o3 : Addr) (o4 o5 o6 : Addr) (i0 i1 : Int32) (i2 i3 : Int32) (i4 i5 : Int32) (k0 : ClassId) (j1 j2 : Int64) (k2 : ClassId) (i6 i7 i8 : Int32) (k3 : ClassId) (i9 i10 i11 : Int32) (h0 : Heap) (n0 : Nat) (v : Option Value) (h : Heap) (L : List Loc) : Prop := v = some (.int i10) ∧ Fr n0 L ∧ Keep h0 h [o0, o5] ∧ Exa Z h o0 c0_ ∧ Fld Z h o0 c0_ "prices" "[J" (.ref o2) ∧ Fld Z h o0 c0_ "sizes" "[J" (.ref o3) ∧ Fld Z h o0 c0_ "left" "[I" (.ref o4) ∧ Fld Z h o0 c0_ "right" "[I" (.ref o5) ∧ Fld Z h o0 c0_ "heights" "[B" (.ref o6) ∧ Fld Z h o0 c0_ "root" "I" (.int i0) ∧ Fld Z h o0 c0_ "best" "I" (.int i1) ∧ Fld Z h o0 c0_ "unused" "I" (.int i2) ∧ Fld Z h o0 c0_ "free" "I" (.int (1 : Int32)) ∧ Fld Z h o0 c0_ "count" "I" (.int (i4 - (1 : Int32))) ∧ Fld Z h o0 c0_ "highestFirst" "Z" (.int i5) ∧ Arv Z h o5 k3 .int (8 : Int32) [(.int i9), (.int i3), (.int i11)] oZ
set_option maxRecDepth 65536 in
set_option maxHeartbeats 40000000 in
theorem rm31_60 (l : Launch) (Z : State) (a0 : Array Value) (hw : oW_ a0 Z) (ws : List Jvm.Cond) (o0 : Addr) (j0 : Int64) (o2 o3 : Addr) (o4 o5 o6 : Addr) (i0 i1 : Int32) (i2 i3 : Int32) (i4 i5 : Int32) (k0 : ClassId) (j1 j2 : Int64) (k2 : ClassId) (i6 i7 i8 : Int32) (k3 : ClassId) (i9 i10 i11 : Int32) (h0 : Heap) (n0 : Nat) (Z0 : n0 ≤ h0.size) (g_o0 : n0 ≤ o0) (E_o0 : Exa Z h0 o0 c0_) (F_prices_o0 : Fld Z h0 o0 c0_ "prices" "[J" (.ref o2)) (F_sizes_o0 : Fld Z h0 o0 c0_ "sizes" "[J" (.ref o3)) (F_left_o0 : Fld Z h0 o0 c0_ "left" "[I" (.ref o4)) (F_right_o0 : Fld Z h0 o0 c0_ "right" "[I" (.ref o5)) (F_heights_o0 : Fld Z h0 o0 c0_ "heights" "[B" (.ref o6)) (F_root_o0 : Fld Z h0 o0 c0_ "root" "I" (.int i0)) (F_best_o0 : Fld Z h0 o0 c0_ "best" "I" (.int i1)) (F_unused_o0 : Fld Z h0 o0 c0_ "unused" "I" (.int i2)) (F_free_o0 : Fld Z h0 o0 c0_ "free" "I" (.int i3)) (F_count_o0 : Fld Z h0 o0 c0_ "count" "I" (.int i4)) (F_highestFirst_o0 : Fld Z h0 o0 c0_ "highestFirst" "Z" (.int i5)) (V_o2 : Arv Z h0 o2 k0 .long (8 : Int32) [(.long j1), (.long j0), (.long j2)] oY) (V_o4 : Arv Z h0 o4 k2 .int (8 : Int32) [(.int i6), (.int i7), (.int i8)] oZ) (g_o5 : n0 ≤ o5) (V_o5 : Arv Z h0 o5 k3 .int (8 : Int32) [(.int i9), (.int i10), (.int i11)] oZ) (hp0 : ¬ ((fcp j0 j0 i5) < (0 : Int32))) (hp1 : ¬ ((0 : Int32) < (fcp j0 j0 i5))) (hp2 : i7 = (0 : Int32)) (ne_o2_o5 : o2 ≠ o5) (ne_o4_o5 : o4 ≠ o5) :
    MetFree l y34_ (head1 (Jvm.Cond.code y34_ prog_3_method_9_code 6 (some .int) :: ws) (rM_ 2 0 0 31)) (fun a U => a = #[(.ref o0), (.int (1 : Int32)), (.long j0)] ∧ Z.Warmed39 U.vm ∧ U.heap = h0) (fun _ _ _ _ _ => True) (fun _ U o U' => ∃ v L, o = .returned v ∧ Q31_60 Z o0 j0 o2 o3 o4 o5 o6 i0 i1 i2 i3 i4 i5 k0 j1 j2 k2 i6 i7 i8 k3 i9 i10 i11 h0 n0 v U'.heap L ∧ FrameEnd U o U' L (rM_ 2 0 0 31).cells (rM_ 2 0 0 31).slots) := by
  refine MetFree.of_bodySF (plainFor_of_name pn_31) hisR ?_
  intro p e s m args below meth c s₁ Bd hml0 hP hK
  obtain ⟨rfl, hZ, hh⟩ := hP
  have hx := Bd.exec
  have hby := Bd.bytes
  have hml : c.maxLocals = 6 := hml0
  have hown : s.vm.findClass c0_ = some m.cls := findClass_of_methodNamed Bd.named
  have hnm := (name_of_methodNamed Bd.named Bd.method).1
  have X0 : Stand p l e (rM_ 2 0 0 31) s m #[(.ref o0), (.int (1 : Int32)), (.long j0)] below meth c s₁ [] 0 0 := Stand.of_body Bd
  have e0 : s₁.heap = h0 := by rw [← hh, Bd.state]; rfl
  have N0 := Fr.nil n0
  have K0 : Keep h0 h0 [o0, o5] := Keep.refl h0 _
  change own_Go p e below (own_Post s (Q31_60 Z o0 j0 o2 o3 o4 o5 o6 i0 i1 i2 i3 i4 i5 k0 j1 j2 k2 i6 i7 i8 k3 i9 i10 i11 h0 n0) (rM_ 2 0 0 31).cells (rM_ 2 0 0 31).slots) (s₁.setTop (entryFrame m #[(.ref o0), (.int (1 : Int32)), (.long j0)] 6))
  refine own_by (fun t k => castTop (ef_31 m o0 (1 : Int32) j0) k) ?_
  show own_Go p e below _ (s₁.setTop (mkF m 0 (lA11_ o0 (1 : Int32) j0) []))
  refine own_by (B := s₁.setTop (mkF m 9 (lA11_ o0 (1 : Int32) j0) [(.ref o0), (.long j0), (.ref o0)])) (fun t k => ?_) ?_
  · refine XS.iloadN X0.here hx rfl (hb hby d31_0) rfl ?_
    refine XS.ifYes X0.here hx rfl (pc0 := 1) (pc' := 6) rfl (hb hby d31_1) rfl ((if0 _ _).trans (feq (by decide : ¬ ((1 : Int32) = (0 : Int32)))).2) dE_ dE_ ?_
    show Steps p.tables e below (s₁.setTop (mkF m 6 (lA11_ o0 (1 : Int32) j0) [])) _
    refine XS.aloadN X0.here hx rfl (hb hby d31_6) rfl rfl ?_
    refine XS.lloadN X0.here hx rfl (hb hby d31_7) rfl ?_
    refine XS.aloadN X0.here hx rfl (hb hby d31_8) rfl rfl ?_
    exact k
  refine own_c1 (getF X0 hx hZ hown (host := "") (Or.inl (hW hw 11 rfl)) Via.refl e0 F_prices_o0 rfl rfl (hb hby d31_9)) fun T1 X1 e1 => ?_
  show own_Go p e below _ (T1.setTop (mkF m 12 (lA11_ o0 (1 : Int32) j0) [(.ref o2), (.long j0), (.ref o0)]))
  refine own_by (B := T1.setTop (mkF m 14 (lA11_ o0 (1 : Int32) j0) [(.long j0), (.long j0), (.ref o0)])) (fun t k => ?_) ?_
  · refine XS.iloadN X1.here hx rfl (hb hby d31_12) rfl ?_
    obtain ⟨cl2, Ar2, q2, S2, N2, H2, G2⟩ := id V_o2
    have hin2 : ¬ ((1 : Int32) < 0 ∨ cl2.slots.size ≤ ((1 : Int32)).toNatClampNeg) := inb_of S2 ⟨by decide, by decide⟩
    have hat2 : cl2.slots[((1 : Int32)).toNatClampNeg]? = some (.long j0) := H2.at hin2 rfl
    refine X1.laload hx (j := (1 : Int32)) (v := (.long j0)) (by rw [show T1.heap = h0 from e1]; exact Ar2.1) (State.isArrayOf_alike hZ.alike Ar2.2.1) Ar2.2.2 hin2 hat2 (g := (mkF m 13 (lA11_ o0 (1 : Int32) j0) [(.int (1 : Int32)), (.ref o2), (.long j0), (.ref o0)])) rfl rfl (hb hby d31_13) _ ?_
    show Steps p.tables e below (T1.setTop (mkF m 14 (lA11_ o0 (1 : Int32) j0) [(.long j0), (.long j0), (.ref o0)])) _
    exact k
  refine own_cc (own_callP X1 hx hZ (y := y4_) hown (hW hw 48 rfl) (hW hw 49 rfl) (hW hw 3 rfl) (hW hw 51 rfl) (hW hw 50 rfl) (hW hw 2 rfl) dE_ (rm6 l Z a0 hw [] o0 j0 j0 i5 h0 n0 Z0 F_highestFirst_o0) e1 0 dE_ dE_ dE_ dE_ rfl (by rw [hml]; rfl) o0 E_o0 [(.long j0), (.long j0)] [] rfl (lenOf pd_4 rfl) rfl (by show 2 * 0 + _ ≤ _; exact Nat.le_of_eq rfl) (hb hby d31_14)) fun T4 L4 v4 X4 hQ4 => ?_
  obtain ⟨rfl, N4, e4⟩ := hQ4
  replace N0 := Fr.app N0 N4
  show own_Go p e below _ (T4.setTop (mkF m 17 (lA11_ o0 (1 : Int32) j0) [(.int (fcp j0 j0 i5))]))
  refine own_by (B := T4.setTop (mkF m 70 (lA12_ o0 (1 : Int32) j0 (fcp j0 j0 i5)) [(.ref o0)])) (fun t k => ?_) ?_
  · refine XS.istore X4.here hx rfl (hb hby d31_17) rfl (l' := (lA12_ o0 (1 : Int32) j0 (fcp j0 j0 i5))) rfl ?_
    show Steps p.tables e below (T4.setTop (mkF m 19 (lA12_ o0 (1 : Int32) j0 (fcp j0 j0 i5)) [])) _
    refine XS.iload X4.here hx rfl (hb hby d31_19) rfl ?_
    refine XS.ifYes X4.here hx rfl (pc0 := 21) (pc' := 44) rfl (hb hby d31_21) rfl ((if0 _ _).trans (flt hp0).2.1) dE_ dE_ ?_
    show Steps p.tables e below (T4.setTop (mkF m 44 (lA12_ o0 (1 : Int32) j0 (fcp j0 j0 i5)) [])) _
    refine XS.iload X4.here hx rfl (hb hby d31_44) rfl ?_
    refine XS.ifYes X4.here hx rfl (pc0 := 46) (pc' := 69) rfl (hb hby d31_46) rfl ((if0 _ _).trans (flt hp1).2.2.2) dE_ dE_ ?_
    show Steps p.tables e below (T4.setTop (mkF m 69 (lA12_ o0 (1 : Int32) j0 (fcp j0 j0 i5)) [])) _
    refine XS.aloadN X4.here hx rfl (hb hby d31_69) rfl rfl ?_
    exact k
  refine own_c1 (getF X4 hx hZ hown (host := "") (Or.inl (hW hw 16 rfl)) Via.refl e4 F_left_o0 rfl rfl (hb hby d31_70)) fun T5 X5 e5 => ?_
  show own_Go p e below _ (T5.setTop (mkF m 73 (lA12_ o0 (1 : Int32) j0 (fcp j0 j0 i5)) [(.ref o4)]))
  refine own_by (B := T5.setTop (mkF m 88 (lA12_ o0 (1 : Int32) j0 (fcp j0 j0 i5)) [(.ref o0)])) (fun t k => ?_) ?_
  · refine XS.iloadN X5.here hx rfl (hb hby d31_73) rfl ?_
    obtain ⟨cl6, Ar6, q6, S6, N6, H6, G6⟩ := id V_o4
    have hin6 : ¬ ((1 : Int32) < 0 ∨ cl6.slots.size ≤ ((1 : Int32)).toNatClampNeg) := inb_of S6 ⟨by decide, by decide⟩
    have hat6 : cl6.slots[((1 : Int32)).toNatClampNeg]? = some (.int i7) := H6.at hin6 rfl
    refine X5.iaload hx (j := (1 : Int32)) (v := (.int i7)) (by rw [show T5.heap = h0 from e5]; exact Ar6.1) (State.isArrayOf_alike hZ.alike Ar6.2.1) Ar6.2.2 hin6 hat6 (g := (mkF m 74 (lA12_ o0 (1 : Int32) j0 (fcp j0 j0 i5)) [(.int (1 : Int32)), (.ref o4)])) rfl rfl (hb hby d31_74) _ ?_
    show Steps p.tables e below (T5.setTop (mkF m 75 (lA12_ o0 (1 : Int32) j0 (fcp j0 j0 i5)) [(.int i7)])) _
    refine XS.ifYes X5.here hx rfl (pc0 := 75) (pc' := 87) rfl (hb hby d31_75) rfl ((if0 _ _).trans (teq hp2).1) dE_ dE_ ?_
    show Steps p.tables e below (T5.setTop (mkF m 87 (lA12_ o0 (1 : Int32) j0 (fcp j0 j0 i5)) [])) _
    refine XS.aloadN X5.here hx rfl (hb hby d31_87) rfl rfl ?_
    exact k
  refine own_c1 (getF X5 hx hZ hown (host := "") (Or.inl (hW hw 16 rfl)) Via.refl e5 F_left_o0 rfl rfl (hb hby d31_88)) fun T7 X7 e7 => ?_
  show own_Go p e below _ (T7.setTop (mkF m 91 (lA12_ o0 (1 : Int32) j0 (fcp j0 j0 i5)) [(.ref o4)]))
  refine own_by (B := T7.setTop (mkF m 97 (lA12_ o0 (1 : Int32) j0 (fcp j0 j0 i5)) [(.ref o0)])) (fun t k => ?_) ?_
  · refine XS.iloadN X7.here hx rfl (hb hby d31_91) rfl ?_
    obtain ⟨cl8, Ar8, q8, S8, N8, H8, G8⟩ := id V_o4
    have hin8 : ¬ ((1 : Int32) < 0 ∨ cl8.slots.size ≤ ((1 : Int32)).toNatClampNeg) := inb_of S8 ⟨by decide, by decide⟩
    have hat8 : cl8.slots[((1 : Int32)).toNatClampNeg]? = some (.int i7) := H8.at hin8 rfl
    refine X7.iaload hx (j := (1 : Int32)) (v := (.int i7)) (by rw [show T7.heap = h0 from e7]; exact Ar8.1) (State.isArrayOf_alike hZ.alike Ar8.2.1) Ar8.2.2 hin8 hat8 (g := (mkF m 92 (lA12_ o0 (1 : Int32) j0 (fcp j0 j0 i5)) [(.int (1 : Int32)), (.ref o4)])) rfl rfl (hb hby d31_92) _ ?_
    show Steps p.tables e below (T7.setTop (mkF m 93 (lA12_ o0 (1 : Int32) j0 (fcp j0 j0 i5)) [(.int i7)])) _
    refine XS.ifNo X7.here hx rfl (hb hby d31_93) rfl ((if0 _ _).trans (teq hp2).2) ?_
    show Steps p.tables e below (T7.setTop (mkF m 96 (lA12_ o0 (1 : Int32) j0 (fcp j0 j0 i5)) [])) _
    refine XS.aloadN X7.here hx rfl (hb hby d31_96) rfl rfl ?_
    exact k
  refine own_c1 (getF X7 hx hZ hown (host := "") (Or.inl (hW hw 18 rfl)) Via.refl e7 F_right_o0 rfl rfl (hb hby d31_97)) fun T9 X9 e9 => ?_
  show own_Go p e below _ (T9.setTop (mkF m 100 (lA12_ o0 (1 : Int32) j0 (fcp j0 j0 i5)) [(.ref o5)]))
  refine own_by (B := T9.setTop (mkF m 115 (lA13_ o0 (1 : Int32) j0 (fcp j0 j0 i5) i10) [(.int (1 : Int32)), (.ref o0)])) (fun t k => ?_) ?_
  · refine XS.iloadN X9.here hx rfl (hb hby d31_100) rfl ?_
    obtain ⟨cl10, Ar10, q10, S10, N10, H10, G10⟩ := id V_o5
    have hin10 : ¬ ((1 : Int32) < 0 ∨ cl10.slots.size ≤ ((1 : Int32)).toNatClampNeg) := inb_of S10 ⟨by decide, by decide⟩
    have hat10 : cl10.slots[((1 : Int32)).toNatClampNeg]? = some (.int i10) := H10.at hin10 rfl
    refine X9.iaload hx (j := (1 : Int32)) (v := (.int i10)) (by rw [show T9.heap = h0 from e9]; exact Ar10.1) (State.isArrayOf_alike hZ.alike Ar10.2.1) Ar10.2.2 hin10 hat10 (g := (mkF m 101 (lA12_ o0 (1 : Int32) j0 (fcp j0 j0 i5)) [(.int (1 : Int32)), (.ref o5)])) rfl rfl (hb hby d31_101) _ ?_
    show Steps p.tables e below (T9.setTop (mkF m 102 (lA12_ o0 (1 : Int32) j0 (fcp j0 j0 i5)) [(.int i10)])) _
    refine XS.goto X9.here hx rfl (pc0 := 102) (pc' := 111) rfl (hb hby d31_102) dE_ dE_ ?_
    show Steps p.tables e below (T9.setTop (mkF m 111 (lA12_ o0 (1 : Int32) j0 (fcp j0 j0 i5)) [(.int i10)])) _
    refine XS.istore X9.here hx rfl (hb hby d31_111) rfl (l' := (lA13_ o0 (1 : Int32) j0 (fcp j0 j0 i5) i10)) rfl ?_
    show Steps p.tables e below (T9.setTop (mkF m 113 (lA13_ o0 (1 : Int32) j0 (fcp j0 j0 i5) i10) [])) _
    refine XS.aloadN X9.here hx rfl (hb hby d31_113) rfl rfl ?_
    refine XS.iloadN X9.here hx rfl (hb hby d31_114) rfl ?_
    exact k
  refine own_cc (own_callP X9 hx hZ (y := y33_) hown (hW hw 201 rfl) (hW hw 202 rfl) (hW hw 3 rfl) (hW hw 204 rfl) (hW hw 203 rfl) (hW hw 2 rfl) dE_ (rm32_59 l Z a0 hw [] o0 o2 o3 o4 o5 o6 i0 i1 i2 i3 i4 i5 k3 i9 i10 i11 h0 n0 Z0 g_o0 E_o0 F_prices_o0 F_sizes_o0 F_left_o0 F_right_o0 F_heights_o0 F_root_o0 F_best_o0 F_unused_o0 F_free_o0 F_count_o0 F_highestFirst_o0 g_o5 V_o5) e9 0 dE_ dE_ dE_ dE_ rfl (by rw [hml]; rfl) o0 E_o0 [(.int (1 : Int32))] [] rfl (lenOf pd_6 rfl) rfl (by show 2 * 0 + _ ≤ _; exact Nat.le_of_eq rfl) (hb hby d31_115)) fun T12 L12 v12 X12 hQ12 => ?_
  obtain ⟨rfl, N12, K12, V_o5', E_o0', F_prices_o0', F_sizes_o0', F_left_o0', F_right_o0', F_heights_o0', F_root_o0', F_best_o0', F_unused_o0', F_free_o0', F_count_o0', F_highestFirst_o0'⟩ := hQ12
  replace N0 := Fr.app N0 N12
  have nx1 : o2 ≠ o0 := (Ne.symm (own_nev E_o0 (hW hw 2 rfl) V_o2))
  have nx2 : o4 ≠ o0 := (Ne.symm (own_nev E_o0 (hW hw 2 rfl) V_o4))
  replace E_o0 := E_o0.keep K12
  replace V_o2 := V_o2.keep K12 (ninS ne_o2_o5 (ninS nx1 nin0))
  replace V_o4 := V_o4.keep K12 (ninS ne_o4_o5 (ninS nx2 nin0))
  replace K0 := K0.trans K12 (allS (Or.inl (List.mem_of_getElem? (i := 1) rfl)) (allS (Or.inl (List.mem_of_getElem? (i := 0) rfl)) all0))
  replace Z0 := Nat.le_trans Z0 K12.1
  have V_o5 := V_o5'
  replace E_o0 := E_o0'
  have F_prices_o0 := F_prices_o0'
  have F_sizes_o0 := F_sizes_o0'
  have F_left_o0 := F_left_o0'
  have F_right_o0 := F_right_o0'
  have F_heights_o0 := F_heights_o0'
  have F_root_o0 := F_root_o0'
  have F_best_o0 := F_best_o0'
  have F_unused_o0 := F_unused_o0'
  have F_free_o0 := F_free_o0'
  have F_count_o0 := F_count_o0'
  have F_highestFirst_o0 := F_highestFirst_o0'
  show own_Go p e below _ (T12.setTop (mkF m 118 (lA13_ o0 (1 : Int32) j0 (fcp j0 j0 i5) i10) []))
  refine own_by (B := T12.setTop (mkF m 120 (lA13_ o0 (1 : Int32) j0 (fcp j0 j0 i5) i10) [(.int i10)])) (fun t k => ?_) ?_
  · refine XS.iload X12.here hx rfl (hb hby d31_118) rfl ?_
    exact k
  exact own_retI X12 Bd.notSynchronized hx Bd.returns (hb hby d31_120) ⟨rfl, N0, K0, E_o0, F_prices_o0, F_sizes_o0, F_left_o0, F_right_o0, F_heights_o0, F_root_o0, F_best_o0, F_unused_o0, F_free_o0, F_count_o0, F_highestFirst_o0, V_o5⟩ dE_ dE_

theorem d3_6 : dC15_ 6 (.aload_n 0, 1) := by decide +kernel
theorem d3_7 : dC15_ 7 (.aload_n 0, 1) := by decide +kernel
theorem d3_8 : dC15_ 8 (.aload_n 0, 1) := by decide +kernel
theorem d3_9 : dC15_ 9 (.getfield 29, 3) := by decide +kernel
theorem d3_12 : dC15_ 12 (.lload_n 1, 1) := by decide +kernel
theorem d3_13 : dC15_ 13 (.invokevirtual 46, 3) := by decide +kernel
theorem d3_16 : dC15_ 16 (.putfield 29, 3) := by decide +kernel
theorem d3_19 : dC15_ 19 (.goto 40, 3) := by decide +kernel
theorem pd_17 : parseMethodDescriptor "(IJ)I" = some ⟨[.int, .long], some .int⟩ := by decide +kernel
def Q3_61 (Z : State) (o0 : Addr) (j0 j1 : Int64) (o2 o3 : Addr) (o4 o5 o6 : Addr) (i0 i1 : Int32) (i2 i3 i4 : Int32) (k0 : ClassId) (j2 j3 : Int64) (k2 : ClassId) (i5 i6 i7 : Int32) (k3 : ClassId) (i8 i9 : Int32) (h0 : Heap) (n0 : Nat) (v : Option Value) (h : Heap) (L : List Loc) : Prop := v = none ∧ Fr n0 L ∧ Keep h0 h [o5, o0] ∧ Arv Z h o5 k3 .int (8 : Int32) [(.int i8), (.int i2), (.int i9)] oZ ∧ Exa Z h o0 c0_ ∧ Fld Z h o0 c0_ "prices" "[J" (.ref o2) ∧ Fld Z h o0 c0_ "sizes" "[J" (.ref o3) ∧ Fld Z h o0 c0_ "left" "[I" (.ref o4) ∧ Fld Z h o0 c0_ "right" "[I" (.ref o5) ∧ Fld Z h o0 c0_ "heights" "[B" (.ref o6) ∧ Fld Z h o0 c0_ "root" "I" oZ ∧ Fld Z h o0 c0_ "best" "I" oZ ∧ Fld Z h o0 c0_ "unused" "I" (.int i1) ∧ Fld Z h o0 c0_ "free" "I" (.int (1 : Int32)) ∧ Fld Z h o0 c0_ "count" "I" (.int (i3 - (1 : Int32))) ∧ Fld Z h o0 c0_ "highestFirst" "Z" (.int i4)
set_option maxRecDepth 65536 in
set_option maxHeartbeats 40000000 in
theorem rm3_61 (l : Launch) (Z : State) (a0 : Array Value) (hw : oW_ a0 Z) (ws : List Jvm.Cond) (o0 : Addr) (j0 j1 : Int64) (o2 o3 : Addr) (o4 o5 o6 : Addr) (i0 i1 : Int32) (i2 i3 i4 : Int32) (k0 : ClassId) (j2 j3 : Int64) (k2 : ClassId) (i5 i6 i7 : Int32) (k3 : ClassId) (i8 i9 : Int32) (h0 : Heap) (n0 : Nat) (Z0 : n0 ≤ h0.size) (g_o0 : n0 ≤ o0) (E_o0 : Exa Z h0 o0 c0_) (F_prices_o0 : Fld Z h0 o0 c0_ "prices" "[J" (.ref o2)) (F_sizes_o0 : Fld Z h0 o0 c0_ "sizes" "[J" (.ref o3)) (F_left_o0 : Fld Z h0 o0 c0_ "left" "[I" (.ref o4)) (F_right_o0 : Fld Z h0 o0 c0_ "right" "[I" (.ref o5)) (F_heights_o0 : Fld Z h0 o0 c0_ "heights" "[B" (.ref o6)) (F_root_o0 : Fld Z h0 o0 c0_ "root" "I" (.int (1 : Int32))) (F_best_o0 : Fld Z h0 o0 c0_ "best" "I" (.int i0)) (F_unused_o0 : Fld Z h0 o0 c0_ "unused" "I" (.int i1)) (F_free_o0 : Fld Z h0 o0 c0_ "free" "I" (.int i2)) (F_count_o0 : Fld Z h0 o0 c0_ "count" "I" (.int i3)) (F_highestFirst_o0 : Fld Z h0 o0 c0_ "highestFirst" "Z" (.int i4)) (V_o2 : Arv Z h0 o2 k0 .long (8 : Int32) [(.long j2), (.long j0), (.long j3)] oY) (V_o4 : Arv Z h0 o4 k2 .int (8 : Int32) [(.int i5), (.int i6), (.int i7)] oZ) (g_o5 : n0 ≤ o5) (V_o5 : Arv Z h0 o5 k3 .int (8 : Int32) [(.int i8), oZ, (.int i9)] oZ) (hp0 : j1 = (0 : Int64)) (hp1 : ¬ ((fcp j0 j0 i4) < (0 : Int32))) (hp2 : ¬ ((0 : Int32) < (fcp j0 j0 i4))) (hp3 : i6 = (0 : Int32)) (ne_o2_o5 : o2 ≠ o5) (ne_o4_o5 : o4 ≠ o5) (hp4 : i5 = (0 : Int32)) :
    MetFree l y15_ (head1 (Jvm.Cond.code y15_ prog_3_method_4_code 5 none :: ws) (rM_ 3 0 0 49)) (fun a U => a = #[(.ref o0), (.long j0), (.long j1)] ∧ Z.Warmed39 U.vm ∧ U.heap = h0) (fun _ _ _ _ _ => True) (fun _ U o U' => ∃ v L, o = .returned v ∧ Q3_61 Z o0 j0 j1 o2 o3 o4 o5 o6 i0 i1 i2 i3 i4 k0 j2 j3 k2 i5 i6 i7 k3 i8 i9 h0 n0 v U'.heap L ∧ FrameEnd U o U' L (rM_ 3 0 0 49).cells (rM_ 3 0 0 49).slots) := by
  refine MetFree.of_bodySF (plainFor_of_name pn_3) hisR ?_
  intro p e s m args below meth c s₁ Bd hml0 hP hK
  obtain ⟨rfl, hZ, hh⟩ := hP
  have hx := Bd.exec
  have hby := Bd.bytes
  have hml : c.maxLocals = 5 := hml0
  have hown : s.vm.findClass c0_ = some m.cls := findClass_of_methodNamed Bd.named
  have hnm := (name_of_methodNamed Bd.named Bd.method).1
  have X0 : Stand p l e (rM_ 3 0 0 49) s m #[(.ref o0), (.long j0), (.long j1)] below meth c s₁ [] 0 0 := Stand.of_body Bd
  have e0 : s₁.heap = h0 := by rw [← hh, Bd.state]; rfl
  have N0 := Fr.nil n0
  have K0 : Keep h0 h0 [o5, o0] := Keep.refl h0 _
  change own_Go p e below (own_Post s (Q3_61 Z o0 j0 j1 o2 o3 o4 o5 o6 i0 i1 i2 i3 i4 k0 j2 j3 k2 i5 i6 i7 k3 i8 i9 h0 n0) (rM_ 3 0 0 49).cells (rM_ 3 0 0 49).slots) (s₁.setTop (entryFrame m #[(.ref o0), (.long j0), (.long j1)] 5))
  refine own_by (fun t k => castTop (ef_3 m o0 j0 j1) k) ?_
  show own_Go p e below _ (s₁.setTop (mkF m 0 (lA0_ o0 j0 j1) []))
  refine own_by (B := s₁.setTop (mkF m 9 (lA0_ o0 j0 j1) [(.ref o0), (.ref o0), (.ref o0)])) (fun t k => ?_) ?_
  · refine XS.lloadN X0.here hx rfl (hb hby d3_0) rfl ?_
    refine XS.lconst X0.here hx rfl (hb hby d3_1) ?_
    refine XS.lcmp X0.here hx rfl (hb hby d3_2) rfl ?_
    show Steps p.tables e below (s₁.setTop (mkF m 3 (lA0_ o0 j0 j1) [(.int (lcmpW j1 (0 : Int64)))])) _
    refine XS.ifNo X0.here hx rfl (hb hby d3_3) rfl ((if0 _ _).trans (teq ((lw_eq _ _).mpr hp0)).2) ?_
    show Steps p.tables e below (s₁.setTop (mkF m 6 (lA0_ o0 j0 j1) [])) _
    refine XS.aloadN X0.here hx rfl (hb hby d3_6) rfl rfl ?_
    refine XS.aloadN X0.here hx rfl (hb hby d3_7) rfl rfl ?_
    refine XS.aloadN X0.here hx rfl (hb hby d3_8) rfl rfl ?_
    exact k
  refine own_c1 (getF X0 hx hZ hown (host := "") (Or.inl (hW hw 23 rfl)) Via.refl e0 F_root_o0 rfl rfl (hb hby d3_9)) fun T1 X1 e1 => ?_
  show own_Go p e below _ (T1.setTop (mkF m 12 (lA0_ o0 j0 j1) [(.int (1 : Int32)), (.ref o0), (.ref o0)]))
  refine own_by (B := T1.setTop (mkF m 13 (lA0_ o0 j0 j1) [(.long j0), (.int (1 : Int32)), (.ref o0), (.ref o0)])) (fun t k => ?_) ?_
  · refine XS.lloadN X1.here hx rfl (hb hby d3_12) rfl ?_
    exact k
  refine own_cc (own_callP X1 hx hZ (y := y34_) hown (hW hw 197 rfl) (hW hw 198 rfl) (hW hw 3 rfl) (hW hw 200 rfl) (hW hw 199 rfl) (hW hw 2 rfl) dE_ (rm31_60 l Z a0 hw [] o0 j0 o2 o3 o4 o5 o6 (1 : Int32) i0 i1 i2 i3 i4 k0 j2 j3 k2 i5 i6 i7 k3 i8 (0 : Int32) i9 h0 n0 Z0 g_o0 E_o0 F_prices_o0 F_sizes_o0 F_left_o0 F_right_o0 F_heights_o0 F_root_o0 F_best_o0 F_unused_o0 F_free_o0 F_count_o0 F_highestFirst_o0 V_o2 V_o4 g_o5 V_o5 hp1 hp2 hp3 ne_o2_o5 ne_o4_o5) e1 1 dE_ dE_ dE_ dE_ rfl (by rw [hml]; rfl) o0 E_o0 [(.int (1 : Int32)), (.long j0)] [(.ref o0)] rfl (lenOf pd_17 rfl) rfl (by show 2 * 0 + _ ≤ _; exact Nat.le_of_eq rfl) (hb hby d3_13)) fun T3 L3 v3 X3 hQ3 => ?_
  obtain ⟨rfl, N3, K3, E_o0', F_prices_o0', F_sizes_o0', F_left_o0', F_right_o0', F_heights_o0', F_root_o0', F_best_o0', F_unused_o0', F_free_o0', F_count_o0', F_highestFirst_o0', V_o5'⟩ := hQ3
  replace N0 := Fr.app N0 N3
  have nx1 : o2 ≠ o0 := (Ne.symm (own_nev E_o0 (hW hw 2 rfl) V_o2))
  have nx2 : o4 ≠ o0 := (Ne.symm (own_nev E_o0 (hW hw 2 rfl) V_o4))
  replace E_o0 := E_o0.keep K3
  replace V_o2 := V_o2.keep K3 (ninS nx1 (ninS ne_o2_o5 nin0))
  replace V_o4 := V_o4.keep K3 (ninS nx2 (ninS ne_o4_o5 nin0))
  replace K0 := K0.trans K3 (allS (Or.inl (List.mem_of_getElem? (i := 1) rfl)) (allS (Or.inl (List.mem_of_getElem? (i := 0) rfl)) all0))
  replace Z0 := Nat.le_trans Z0 K3.1
  replace E_o0 := E_o0'
  have F_prices_o0 := F_prices_o0'
  have F_sizes_o0 := F_sizes_o0'
  have F_left_o0 := F_left_o0'
  have F_right_o0 := F_right_o0'
  have F_heights_o0 := F_heights_o0'
  have F_root_o0 := F_root_o0'
  have F_best_o0 := F_best_o0'
  have F_unused_o0 := F_unused_o0'
  have F_free_o0 := F_free_o0'
  have F_count_o0 := F_count_o0'
  have F_highestFirst_o0 := F_highestFirst_o0'
  have V_o5 := V_o5'
  show own_Go p e below _ (T3.setTop (mkF m 16 (lA0_ o0 j0 j1) [oZ, (.ref o0)]))
  refine own_c2 (putF X3 hx hZ hown (host := "") (Or.inl (hW hw 23 rfl)) Via.refl rfl F_root_o0 E_o0 (Or.inl (hW hw 24 rfl)) (hW hw 2 rfl) (ty := .int) dE_ rfl rfl rfl rfl (hb hby d3_16)) fun T4 h4 X4 e4 W4 => ?_
  replace F_root_o0 := F_root_o0.same W4
  have nx3 : o5 ≠ o0 := (Ne.symm (own_nev E_o0 (hW hw 2 rfl) V_o5))
  replace E_o0 := E_o0.wr W4
  replace V_o2 := V_o2.other W4 nx1
  replace V_o4 := V_o4.other W4 nx2
  replace F_prices_o0 := F_prices_o0.other W4 (Or.inr (sn24 hw))
  replace F_sizes_o0 := F_sizes_o0.other W4 (Or.inr (sn25 hw))
  replace F_left_o0 := F_left_o0.other W4 (Or.inr (sn26 hw))
  replace F_right_o0 := F_right_o0.other W4 (Or.inr (sn27 hw))
  replace F_heights_o0 := F_heights_o0.other W4 (Or.inr (sn28 hw))
  replace F_best_o0 := F_best_o0.other W4 (Or.inr (sn29 hw))
  replace F_unused_o0 := F_unused_o0.other W4 (Or.inr (sn30 hw))
  replace F_free_o0 := F_free_o0.other W4 (Or.inr (sn31 hw))
  replace F_count_o0 := F_count_o0.other W4 (Or.inr (sn32 hw))
  replace F_highestFirst_o0 := F_highestFirst_o0.other W4 (Or.inr (sn33 hw))
  replace V_o5 := V_o5.other W4 nx3
  replace K0 := K0.wr W4 (Or.inl (List.mem_of_getElem? (i := 1) rfl))
  replace Z0 := Nat.le_trans Z0 (Keep.of_wr W4).1
  replace N0 := Fr.snoc X4 N0 g_o0
  show own_Go p e below _ (T4.setTop (mkF m 19 (lA0_ o0 j0 j1) []))
  refine own_by (B := T4.setTop (mkF m 61 (lA0_ o0 j0 j1) [(.ref o0), (.ref o0)])) (fun t k => ?_) ?_
  · refine XS.goto X4.here hx rfl (pc0 := 19) (pc' := 59) rfl (hb hby d3_19) dE_ dE_ ?_
    show Steps p.tables e below (T4.setTop (mkF m 59 (lA0_ o0 j0 j1) [])) _
    refine XS.aloadN X4.here hx rfl (hb hby d3_59) rfl rfl ?_
    refine XS.aloadN X4.here hx rfl (hb hby d3_60) rfl rfl ?_
    exact k
  refine own_c1 (getF X4 hx hZ hown (host := "") (Or.inl (hW hw 23 rfl)) Via.refl e4 F_root_o0 rfl rfl (hb hby d3_61)) fun T5 X5 e5 => ?_
  show own_Go p e below _ (T5.setTop (mkF m 64 (lA0_ o0 j0 j1) [oZ, (.ref o0)]))
  refine own_c2 (putF X5 hx hZ hown (host := "") (Or.inl (hW hw 25 rfl)) Via.refl e5 F_best_o0 E_o0 (Or.inl (hW hw 26 rfl)) (hW hw 2 rfl) (ty := .int) dE_ rfl rfl rfl rfl (hb hby d3_64)) fun T6 h6 X6 e6 W6 => ?_
  replace F_best_o0 := F_best_o0.same W6
  replace E_o0 := E_o0.wr W6
  replace V_o2 := V_o2.other W6 nx1
  replace V_o4 := V_o4.other W6 nx2
  replace F_prices_o0 := F_prices_o0.other W6 (Or.inr (sn34 hw))
  replace F_sizes_o0 := F_sizes_o0.other W6 (Or.inr (sn35 hw))
  replace F_left_o0 := F_left_o0.other W6 (Or.inr (sn36 hw))
  replace F_right_o0 := F_right_o0.other W6 (Or.inr (sn37 hw))
  replace F_heights_o0 := F_heights_o0.other W6 (Or.inr (sn38 hw))
  replace F_root_o0 := F_root_o0.other W6 (Or.inr (sn39 hw))
  replace F_unused_o0 := F_unused_o0.other W6 (Or.inr (sn40 hw))
  replace F_free_o0 := F_free_o0.other W6 (Or.inr (sn41 hw))
  replace F_count_o0 := F_count_o0.other W6 (Or.inr (sn42 hw))
  replace F_highestFirst_o0 := F_highestFirst_o0.other W6 (Or.inr (sn43 hw))
  replace V_o5 := V_o5.other W6 nx3
  replace K0 := K0.wr W6 (Or.inl (List.mem_of_getElem? (i := 1) rfl))
  replace Z0 := Nat.le_trans Z0 (Keep.of_wr W6).1
  replace N0 := Fr.snoc X6 N0 g_o0
  show own_Go p e below _ (T6.setTop (mkF m 67 (lA0_ o0 j0 j1) []))
  refine own_by (B := T6.setTop (mkF m 68 (lA0_ o0 j0 j1) [(.ref o0)])) (fun t k => ?_) ?_
  · refine XS.aloadN X6.here hx rfl (hb hby d3_67) rfl rfl ?_
    exact k
  refine own_c1 (getF X6 hx hZ hown (host := "") (Or.inl (hW hw 16 rfl)) Via.refl e6 F_left_o0 rfl rfl (hb hby d3_68)) fun T7 X7 e7 => ?_
  show own_Go p e below _ (T7.setTop (mkF m 71 (lA0_ o0 j0 j1) [(.ref o4)]))
  refine own_by (B := T7.setTop (mkF m 72 (lA0_ o0 j0 j1) [(.ref o0), (.ref o4)])) (fun t k => ?_) ?_
  · refine XS.aloadN X7.here hx rfl (hb hby d3_71) rfl rfl ?_
    exact k
  refine own_c1 (getF X7 hx hZ hown (host := "") (Or.inl (hW hw 25 rfl)) Via.refl e7 F_best_o0 rfl rfl (hb hby d3_72)) fun T8 X8 e8 => ?_
  show own_Go p e below _ (T8.setTop (mkF m 75 (lA0_ o0 j0 j1) [oZ, (.ref o4)]))
  refine own_by (B := T8.setTop (mkF m 95 (lA0_ o0 j0 j1) [])) (fun t k => ?_) ?_
  · obtain ⟨cl9, Ar9, q9, S9, N9, H9, G9⟩ := id V_o4
    have hin9 : ¬ ((0 : Int32) < 0 ∨ cl9.slots.size ≤ ((0 : Int32)).toNatClampNeg) := inb_of S9 ⟨by decide, by decide⟩
    have hat9 : cl9.slots[((0 : Int32)).toNatClampNeg]? = some (.int i5) := H9.at hin9 rfl
    refine X8.iaload hx (j := (0 : Int32)) (v := (.int i5)) (by rw [show T8.heap = h6 from e8]; exact Ar9.1) (State.isArrayOf_alike hZ.alike Ar9.2.1) Ar9.2.2 hin9 hat9 (g := (mkF m 75 (lA0_ o0 j0 j1) [oZ, (.ref o4)])) rfl rfl (hb hby d3_75) _ ?_
    show Steps p.tables e below (T8.setTop (mkF m 76 (lA0_ o0 j0 j1) [(.int i5)])) _
    refine XS.ifYes X8.here hx rfl (pc0 := 76) (pc' := 95) rfl (hb hby d3_76) rfl ((if0 _ _).trans (teq hp4).1) dE_ dE_ ?_
    show Steps p.tables e below (T8.setTop (mkF m 95 (lA0_ o0 j0 j1) [])) _
    exact k
  exact own_retV X8 Bd.notSynchronized hx Bd.returns (hb hby d3_95) (by
      try rw [show T8.heap = h6 from e8]
      exact ⟨rfl, N0, K0, V_o5, E_o0, F_prices_o0, F_sizes_o0, F_left_o0, F_right_o0, F_heights_o0, F_root_o0, F_best_o0, F_unused_o0, F_free_o0, F_count_o0, F_highestFirst_o0⟩) dE_ dE_

theorem d31_78 : dC31_ 78 (.aload_n 0, 1) := by decide +kernel
theorem d31_79 : dC31_ 79 (.getfield 22, 3) := by decide +kernel
theorem d31_82 : dC31_ 82 (.iload_n 1, 1) := by decide +kernel
theorem d31_83 : dC31_ 83 (.iaload, 1) := by decide +kernel
theorem d31_84 : dC31_ 84 (.ifCond .ne 37, 3) := by decide +kernel
theorem d31_105 : dC31_ 105 (.aload_n 0, 1) := by decide +kernel
theorem d31_106 : dC31_ 106 (.getfield 18, 3) := by decide +kernel
theorem d31_109 : dC31_ 109 (.iload_n 1, 1) := by decide +kernel
theorem d31_110 : dC31_ 110 (.iaload, 1) := by decide +kernel
def Q31_62 (Z : State) (o0 : Addr) (j0 : Int64) (o2 o3 : Addr) (o4 o5 o6 : Addr) (i0 i1 : Int32) (i2 i3 : Int32) (i4 i5 : Int32) (k0 : ClassId) (j1 j2 : Int64) (k2 : ClassId) (i6 i7 i8 : Int32) (k3 : ClassId) (i9 i10 i11 : Int32) (h0 : Heap) (n0 : Nat) (v : Option Value) (h : Heap) (L : List Loc) : Prop := v = some (.int i7) ∧ Fr n0 L ∧ Keep h0 h [o0, o5] ∧ Exa Z h o0 c0_ ∧ Fld Z h o0 c0_ "prices" "[J" (.ref o2) ∧ Fld Z h o0 c0_ "sizes" "[J" (.ref o3) ∧ Fld Z h o0 c0_ "left" "[I" (.ref o4) ∧ Fld Z h o0 c0_ "right" "[I" (.ref o5) ∧ Fld Z h o0 c0_ "heights" "[B" (.ref o6) ∧ Fld Z h o0 c0_ "root" "I" (.int i0) ∧ Fld Z h o0 c0_ "best" "I" (.int i1) ∧ Fld Z h o0 c0_ "unused" "I" (.int i2) ∧ Fld Z h o0 c0_ "free" "I" (.int (1 : Int32)) ∧ Fld Z h o0 c0_ "count" "I" (.int (i4 - (1 : Int32))) ∧ Fld Z h o0 c0_ "highestFirst" "Z" (.int i5) ∧ Arv Z h o5 k3 .int (8 : Int32) [(.int i9), (.int i3), (.int i11)] oZ
set_option maxRecDepth 65536 in
set_option maxHeartbeats 40000000 in
theorem rm31_62 (l : Launch) (Z : State) (a0 : Array Value) (hw : oW_ a0 Z) (ws : List Jvm.Cond) (o0 : Addr) (j0 : Int64) (o2 o3 : Addr) (o4 o5 o6 : Addr) (i0 i1 : Int32) (i2 i3 : Int32) (i4 i5 : Int32) (k0 : ClassId) (j1 j2 : Int64) (k2 : ClassId) (i6 i7 i8 : Int32) (k3 : ClassId) (i9 i10 i11 : Int32) (h0 : Heap) (n0 : Nat) (Z0 : n0 ≤ h0.size) (g_o0 : n0 ≤ o0) (E_o0 : Exa Z h0 o0 c0_) (F_prices_o0 : Fld Z h0 o0 c0_ "prices" "[J" (.ref o2)) (F_sizes_o0 : Fld Z h0 o0 c0_ "sizes" "[J" (.ref o3)) (F_left_o0 : Fld Z h0 o0 c0_ "left" "[I" (.ref o4)) (F_right_o0 : Fld Z h0 o0 c0_ "right" "[I" (.ref o5)) (F_heights_o0 : Fld Z h0 o0 c0_ "heights" "[B" (.ref o6)) (F_root_o0 : Fld Z h0 o0 c0_ "root" "I" (.int i0)) (F_best_o0 : Fld Z h0 o0 c0_ "best" "I" (.int i1)) (F_unused_o0 : Fld Z h0 o0 c0_ "unused" "I" (.int i2)) (F_free_o0 : Fld Z h0 o0 c0_ "free" "I" (.int i3)) (F_count_o0 : Fld Z h0 o0 c0_ "count" "I" (.int i4)) (F_highestFirst_o0 : Fld Z h0 o0 c0_ "highestFirst" "Z" (.int i5)) (V_o2 : Arv Z h0 o2 k0 .long (8 : Int32) [(.long j1), (.long j0), (.long j2)] oY) (V_o4 : Arv Z h0 o4 k2 .int (8 : Int32) [(.int i6), (.int i7), (.int i8)] oZ) (g_o5 : n0 ≤ o5) (V_o5 : Arv Z h0 o5 k3 .int (8 : Int32) [(.int i9), (.int i10), (.int i11)] oZ) (hp0 : ¬ ((fcp j0 j0 i5) < (0 : Int32))) (hp1 : ¬ ((0 : Int32) < (fcp j0 j0 i5))) (hp2 : ¬ (i7 = (0 : Int32))) (hp3 : i10 = (0 : Int32)) (ne_o2_o5 : o2 ≠ o5) (ne_o4_o5 : o4 ≠ o5) :
    MetFree l y34_ (head1 (Jvm.Cond.code y34_ prog_3_method_9_code 6 (some .int) :: ws) (rM_ 2 0 0 31)) (fun a U => a = #[(.ref o0), (.int (1 : Int32)), (.long j0)] ∧ Z.Warmed39 U.vm ∧ U.heap = h0) (fun _ _ _ _ _ => True) (fun _ U o U' => ∃ v L, o = .returned v ∧ Q31_62 Z o0 j0 o2 o3 o4 o5 o6 i0 i1 i2 i3 i4 i5 k0 j1 j2 k2 i6 i7 i8 k3 i9 i10 i11 h0 n0 v U'.heap L ∧ FrameEnd U o U' L (rM_ 2 0 0 31).cells (rM_ 2 0 0 31).slots) := by
  refine MetFree.of_bodySF (plainFor_of_name pn_31) hisR ?_
  intro p e s m args below meth c s₁ Bd hml0 hP hK
  obtain ⟨rfl, hZ, hh⟩ := hP
  have hx := Bd.exec
  have hby := Bd.bytes
  have hml : c.maxLocals = 6 := hml0
  have hown : s.vm.findClass c0_ = some m.cls := findClass_of_methodNamed Bd.named
  have hnm := (name_of_methodNamed Bd.named Bd.method).1
  have X0 : Stand p l e (rM_ 2 0 0 31) s m #[(.ref o0), (.int (1 : Int32)), (.long j0)] below meth c s₁ [] 0 0 := Stand.of_body Bd
  have e0 : s₁.heap = h0 := by rw [← hh, Bd.state]; rfl
  have N0 := Fr.nil n0
  have K0 : Keep h0 h0 [o0, o5] := Keep.refl h0 _
  change own_Go p e below (own_Post s (Q31_62 Z o0 j0 o2 o3 o4 o5 o6 i0 i1 i2 i3 i4 i5 k0 j1 j2 k2 i6 i7 i8 k3 i9 i10 i11 h0 n0) (rM_ 2 0 0 31).cells (rM_ 2 0 0 31).slots) (s₁.setTop (entryFrame m #[(.ref o0), (.int (1 : Int32)), (.long j0)] 6))
  refine own_by (fun t k => castTop (ef_31 m o0 (1 : Int32) j0) k) ?_
  show own_Go p e below _ (s₁.setTop (mkF m 0 (lA11_ o0 (1 : Int32) j0) []))
  refine own_by (B := s₁.setTop (mkF m 9 (lA11_ o0 (1 : Int32) j0) [(.ref o0), (.long j0), (.ref o0)])) (fun t k => ?_) ?_
  · refine XS.iloadN X0.here hx rfl (hb hby d31_0) rfl ?_
    refine XS.ifYes X0.here hx rfl (pc0 := 1) (pc' := 6) rfl (hb hby d31_1) rfl ((if0 _ _).trans (feq (by decide : ¬ ((1 : Int32) = (0 : Int32)))).2) dE_ dE_ ?_
    show Steps p.tables e below (s₁.setTop (mkF m 6 (lA11_ o0 (1 : Int32) j0) [])) _
    refine XS.aloadN X0.here hx rfl (hb hby d31_6) rfl rfl ?_
    refine XS.lloadN X0.here hx rfl (hb hby d31_7) rfl ?_
    refine XS.aloadN X0.here hx rfl (hb hby d31_8) rfl rfl ?_
    exact k
  refine own_c1 (getF X0 hx hZ hown (host := "") (Or.inl (hW hw 11 rfl)) Via.refl e0 F_prices_o0 rfl rfl (hb hby d31_9)) fun T1 X1 e1 => ?_
  show own_Go p e below _ (T1.setTop (mkF m 12 (lA11_ o0 (1 : Int32) j0) [(.ref o2), (.long j0), (.ref o0)]))
  refine own_by (B := T1.setTop (mkF m 14 (lA11_ o0 (1 : Int32) j0) [(.long j0), (.long j0), (.ref o0)])) (fun t k => ?_) ?_
  · refine XS.iloadN X1.here hx rfl (hb hby d31_12) rfl ?_
    obtain ⟨cl2, Ar2, q2, S2, N2, H2, G2⟩ := id V_o2
    have hin2 : ¬ ((1 : Int32) < 0 ∨ cl2.slots.size ≤ ((1 : Int32)).toNatClampNeg) := inb_of S2 ⟨by decide, by decide⟩
    have hat2 : cl2.slots[((1 : Int32)).toNatClampNeg]? = some (.long j0) := H2.at hin2 rfl
    refine X1.laload hx (j := (1 : Int32)) (v := (.long j0)) (by rw [show T1.heap = h0 from e1]; exact Ar2.1) (State.isArrayOf_alike hZ.alike Ar2.2.1) Ar2.2.2 hin2 hat2 (g := (mkF m 13 (lA11_ o0 (1 : Int32) j0) [(.int (1 : Int32)), (.ref o2), (.long j0), (.ref o0)])) rfl rfl (hb hby d31_13) _ ?_
    show Steps p.tables e below (T1.setTop (mkF m 14 (lA11_ o0 (1 : Int32) j0) [(.long j0), (.long j0), (.ref o0)])) _
    exact k
  refine own_cc (own_callP X1 hx hZ (y := y4_) hown (hW hw 48 rfl) (hW hw 49 rfl) (hW hw 3 rfl) (hW hw 51 rfl) (hW hw 50 rfl) (hW hw 2 rfl) dE_ (rm6 l Z a0 hw [] o0 j0 j0 i5 h0 n0 Z0 F_highestFirst_o0) e1 0 dE_ dE_ dE_ dE_ rfl (by rw [hml]; rfl) o0 E_o0 [(.long j0), (.long j0)] [] rfl (lenOf pd_4 rfl) rfl (by show 2 * 0 + _ ≤ _; exact Nat.le_of_eq rfl) (hb hby d31_14)) fun T4 L4 v4 X4 hQ4 => ?_
  obtain ⟨rfl, N4, e4⟩ := hQ4
  replace N0 := Fr.app N0 N4
  show own_Go p e below _ (T4.setTop (mkF m 17 (lA11_ o0 (1 : Int32) j0) [(.int (fcp j0 j0 i5))]))
  refine own_by (B := T4.setTop (mkF m 70 (lA12_ o0 (1 : Int32) j0 (fcp j0 j0 i5)) [(.ref o0)])) (fun t k => ?_) ?_
  · refine XS.istore X4.here hx rfl (hb hby d31_17) rfl (l' := (lA12_ o0 (1 : Int32) j0 (fcp j0 j0 i5))) rfl ?_
    show Steps p.tables e below (T4.setTop (mkF m 19 (lA12_ o0 (1 : Int32) j0 (fcp j0 j0 i5)) [])) _
    refine XS.iload X4.here hx rfl (hb hby d31_19) rfl ?_
    refine XS.ifYes X4.here hx rfl (pc0 := 21) (pc' := 44) rfl (hb hby d31_21) rfl ((if0 _ _).trans (flt hp0).2.1) dE_ dE_ ?_
    show Steps p.tables e below (T4.setTop (mkF m 44 (lA12_ o0 (1 : Int32) j0 (fcp j0 j0 i5)) [])) _
    refine XS.iload X4.here hx rfl (hb hby d31_44) rfl ?_
    refine XS.ifYes X4.here hx rfl (pc0 := 46) (pc' := 69) rfl (hb hby d31_46) rfl ((if0 _ _).trans (flt hp1).2.2.2) dE_ dE_ ?_
    show Steps p.tables e below (T4.setTop (mkF m 69 (lA12_ o0 (1 : Int32) j0 (fcp j0 j0 i5)) [])) _
    refine XS.aloadN X4.here hx rfl (hb hby d31_69) rfl rfl ?_
    exact k
  refine own_c1 (getF X4 hx hZ hown (host := "") (Or.inl (hW hw 16 rfl)) Via.refl e4 F_left_o0 rfl rfl (hb hby d31_70)) fun T5 X5 e5 => ?_
  show own_Go p e below _ (T5.setTop (mkF m 73 (lA12_ o0 (1 : Int32) j0 (fcp j0 j0 i5)) [(.ref o4)]))
  refine own_by (B := T5.setTop (mkF m 79 (lA12_ o0 (1 : Int32) j0 (fcp j0 j0 i5)) [(.ref o0)])) (fun t k => ?_) ?_
  · refine XS.iloadN X5.here hx rfl (hb hby d31_73) rfl ?_
    obtain ⟨cl6, Ar6, q6, S6, N6, H6, G6⟩ := id V_o4
    have hin6 : ¬ ((1 : Int32) < 0 ∨ cl6.slots.size ≤ ((1 : Int32)).toNatClampNeg) := inb_of S6 ⟨by decide, by decide⟩
    have hat6 : cl6.slots[((1 : Int32)).toNatClampNeg]? = some (.int i7) := H6.at hin6 rfl
    refine X5.iaload hx (j := (1 : Int32)) (v := (.int i7)) (by rw [show T5.heap = h0 from e5]; exact Ar6.1) (State.isArrayOf_alike hZ.alike Ar6.2.1) Ar6.2.2 hin6 hat6 (g := (mkF m 74 (lA12_ o0 (1 : Int32) j0 (fcp j0 j0 i5)) [(.int (1 : Int32)), (.ref o4)])) rfl rfl (hb hby d31_74) _ ?_
    show Steps p.tables e below (T5.setTop (mkF m 75 (lA12_ o0 (1 : Int32) j0 (fcp j0 j0 i5)) [(.int i7)])) _
    refine XS.ifNo X5.here hx rfl (hb hby d31_75) rfl ((if0 _ _).trans (feq hp2).1) ?_
    show Steps p.tables e below (T5.setTop (mkF m 78 (lA12_ o0 (1 : Int32) j0 (fcp j0 j0 i5)) [])) _
    refine XS.aloadN X5.here hx rfl (hb hby d31_78) rfl rfl ?_
    exact k
  refine own_c1 (getF X5 hx hZ hown (host := "") (Or.inl (hW hw 18 rfl)) Via.refl e5 F_right_o0 rfl rfl (hb hby d31_79)) fun T7 X7 e7 => ?_
  show own_Go p e below _ (T7.setTop (mkF m 82 (lA12_ o0 (1 : Int32) j0 (fcp j0 j0 i5)) [(.ref o5)]))
  refine own_by (B := T7.setTop (mkF m 88 (lA12_ o0 (1 : Int32) j0 (fcp j0 j0 i5)) [(.ref o0)])) (fun t k => ?_) ?_
  · refine XS.iloadN X7.here hx rfl (hb hby d31_82) rfl ?_
    obtain ⟨cl8, Ar8, q8, S8, N8, H8, G8⟩ := id V_o5
    have hin8 : ¬ ((1 : Int32) < 0 ∨ cl8.slots.size ≤ ((1 : Int32)).toNatClampNeg) := inb_of S8 ⟨by decide, by decide⟩
    have hat8 : cl8.slots[((1 : Int32)).toNatClampNeg]? = some (.int i10) := H8.at hin8 rfl
    refine X7.iaload hx (j := (1 : Int32)) (v := (.int i10)) (by rw [show T7.heap = h0 from e7]; exact Ar8.1) (State.isArrayOf_alike hZ.alike Ar8.2.1) Ar8.2.2 hin8 hat8 (g := (mkF m 83 (lA12_ o0 (1 : Int32) j0 (fcp j0 j0 i5)) [(.int (1 : Int32)), (.ref o5)])) rfl rfl (hb hby d31_83) _ ?_
    show Steps p.tables e below (T7.setTop (mkF m 84 (lA12_ o0 (1 : Int32) j0 (fcp j0 j0 i5)) [(.int i10)])) _
    refine XS.ifNo X7.here hx rfl (hb hby d31_84) rfl ((if0 _ _).trans (teq hp3).2) ?_
    show Steps p.tables e below (T7.setTop (mkF m 87 (lA12_ o0 (1 : Int32) j0 (fcp j0 j0 i5)) [])) _
    refine XS.aloadN X7.here hx rfl (hb hby d31_87) rfl rfl ?_
    exact k
  refine own_c1 (getF X7 hx hZ hown (host := "") (Or.inl (hW hw 16 rfl)) Via.refl e7 F_left_o0 rfl rfl (hb hby d31_88)) fun T9 X9 e9 => ?_
  show own_Go p e below _ (T9.setTop (mkF m 91 (lA12_ o0 (1 : Int32) j0 (fcp j0 j0 i5)) [(.ref o4)]))
  refine own_by (B := T9.setTop (mkF m 106 (lA12_ o0 (1 : Int32) j0 (fcp j0 j0 i5)) [(.ref o0)])) (fun t k => ?_) ?_
  · refine XS.iloadN X9.here hx rfl (hb hby d31_91) rfl ?_
    obtain ⟨cl10, Ar10, q10, S10, N10, H10, G10⟩ := id V_o4
    have hin10 : ¬ ((1 : Int32) < 0 ∨ cl10.slots.size ≤ ((1 : Int32)).toNatClampNeg) := inb_of S10 ⟨by decide, by decide⟩
    have hat10 : cl10.slots[((1 : Int32)).toNatClampNeg]? = some (.int i7) := H10.at hin10 rfl
    refine X9.iaload hx (j := (1 : Int32)) (v := (.int i7)) (by rw [show T9.heap = h0 from e9]; exact Ar10.1) (State.isArrayOf_alike hZ.alike Ar10.2.1) Ar10.2.2 hin10 hat10 (g := (mkF m 92 (lA12_ o0 (1 : Int32) j0 (fcp j0 j0 i5)) [(.int (1 : Int32)), (.ref o4)])) rfl rfl (hb hby d31_92) _ ?_
    show Steps p.tables e below (T9.setTop (mkF m 93 (lA12_ o0 (1 : Int32) j0 (fcp j0 j0 i5)) [(.int i7)])) _
    refine XS.ifYes X9.here hx rfl (pc0 := 93) (pc' := 105) rfl (hb hby d31_93) rfl ((if0 _ _).trans (feq hp2).2) dE_ dE_ ?_
    show Steps p.tables e below (T9.setTop (mkF m 105 (lA12_ o0 (1 : Int32) j0 (fcp j0 j0 i5)) [])) _
    refine XS.aloadN X9.here hx rfl (hb hby d31_105) rfl rfl ?_
    exact k
  refine own_c1 (getF X9 hx hZ hown (host := "") (Or.inl (hW hw 16 rfl)) Via.refl e9 F_left_o0 rfl rfl (hb hby d31_106)) fun T11 X11 e11 => ?_
  show own_Go p e below _ (T11.setTop (mkF m 109 (lA12_ o0 (1 : Int32) j0 (fcp j0 j0 i5)) [(.ref o4)]))
  refine own_by (B := T11.setTop (mkF m 115 (lA13_ o0 (1 : Int32) j0 (fcp j0 j0 i5) i7) [(.int (1 : Int32)), (.ref o0)])) (fun t k => ?_) ?_
  · refine XS.iloadN X11.here hx rfl (hb hby d31_109) rfl ?_
    obtain ⟨cl12, Ar12, q12, S12, N12, H12, G12⟩ := id V_o4
    have hin12 : ¬ ((1 : Int32) < 0 ∨ cl12.slots.size ≤ ((1 : Int32)).toNatClampNeg) := inb_of S12 ⟨by decide, by decide⟩
    have hat12 : cl12.slots[((1 : Int32)).toNatClampNeg]? = some (.int i7) := H12.at hin12 rfl
    refine X11.iaload hx (j := (1 : Int32)) (v := (.int i7)) (by rw [show T11.heap = h0 from e11]; exact Ar12.1) (State.isArrayOf_alike hZ.alike Ar12.2.1) Ar12.2.2 hin12 hat12 (g := (mkF m 110 (lA12_ o0 (1 : Int32) j0 (fcp j0 j0 i5)) [(.int (1 : Int32)), (.ref o4)])) rfl rfl (hb hby d31_110) _ ?_
    show Steps p.tables e below (T11.setTop (mkF m 111 (lA12_ o0 (1 : Int32) j0 (fcp j0 j0 i5)) [(.int i7)])) _
    refine XS.istore X11.here hx rfl (hb hby d31_111) rfl (l' := (lA13_ o0 (1 : Int32) j0 (fcp j0 j0 i5) i7)) rfl ?_
    show Steps p.tables e below (T11.setTop (mkF m 113 (lA13_ o0 (1 : Int32) j0 (fcp j0 j0 i5) i7) [])) _
    refine XS.aloadN X11.here hx rfl (hb hby d31_113) rfl rfl ?_
    refine XS.iloadN X11.here hx rfl (hb hby d31_114) rfl ?_
    exact k
  refine own_cc (own_callP X11 hx hZ (y := y33_) hown (hW hw 201 rfl) (hW hw 202 rfl) (hW hw 3 rfl) (hW hw 204 rfl) (hW hw 203 rfl) (hW hw 2 rfl) dE_ (rm32_59 l Z a0 hw [] o0 o2 o3 o4 o5 o6 i0 i1 i2 i3 i4 i5 k3 i9 i10 i11 h0 n0 Z0 g_o0 E_o0 F_prices_o0 F_sizes_o0 F_left_o0 F_right_o0 F_heights_o0 F_root_o0 F_best_o0 F_unused_o0 F_free_o0 F_count_o0 F_highestFirst_o0 g_o5 V_o5) e11 0 dE_ dE_ dE_ dE_ rfl (by rw [hml]; rfl) o0 E_o0 [(.int (1 : Int32))] [] rfl (lenOf pd_6 rfl) rfl (by show 2 * 0 + _ ≤ _; exact Nat.le_of_eq rfl) (hb hby d31_115)) fun T14 L14 v14 X14 hQ14 => ?_
  obtain ⟨rfl, N14, K14, V_o5', E_o0', F_prices_o0', F_sizes_o0', F_left_o0', F_right_o0', F_heights_o0', F_root_o0', F_best_o0', F_unused_o0', F_free_o0', F_count_o0', F_highestFirst_o0'⟩ := hQ14
  replace N0 := Fr.app N0 N14
  have nx1 : o2 ≠ o0 := (Ne.symm (own_nev E_o0 (hW hw 2 rfl) V_o2))
  have nx2 : o4 ≠ o0 := (Ne.symm (own_nev E_o0 (hW hw 2 rfl) V_o4))
  replace E_o0 := E_o0.keep K14
  replace V_o2 := V_o2.keep K14 (ninS ne_o2_o5 (ninS nx1 nin0))
  replace V_o4 := V_o4.keep K14 (ninS ne_o4_o5 (ninS nx2 nin0))
  replace K0 := K0.trans K14 (allS (Or.inl (List.mem_of_getElem? (i := 1) rfl)) (allS (Or.inl (List.mem_of_getElem? (i := 0) rfl)) all0))
  replace Z0 := Nat.le_trans Z0 K14.1
  have V_o5 := V_o5'
  replace E_o0 := E_o0'
  have F_prices_o0 := F_prices_o0'
  have F_sizes_o0 := F_sizes_o0'
  have F_left_o0 := F_left_o0'
  have F_right_o0 := F_right_o0'
  have F_heights_o0 := F_heights_o0'
  have F_root_o0 := F_root_o0'
  have F_best_o0 := F_best_o0'
  have F_unused_o0 := F_unused_o0'
  have F_free_o0 := F_free_o0'
  have F_count_o0 := F_count_o0'
  have F_highestFirst_o0 := F_highestFirst_o0'
  show own_Go p e below _ (T14.setTop (mkF m 118 (lA13_ o0 (1 : Int32) j0 (fcp j0 j0 i5) i7) []))
  refine own_by (B := T14.setTop (mkF m 120 (lA13_ o0 (1 : Int32) j0 (fcp j0 j0 i5) i7) [(.int i7)])) (fun t k => ?_) ?_
  · refine XS.iload X14.here hx rfl (hb hby d31_118) rfl ?_
    exact k
  exact own_retI X14 Bd.notSynchronized hx Bd.returns (hb hby d31_120) ⟨rfl, N0, K0, E_o0, F_prices_o0, F_sizes_o0, F_left_o0, F_right_o0, F_heights_o0, F_root_o0, F_best_o0, F_unused_o0, F_free_o0, F_count_o0, F_highestFirst_o0, V_o5⟩ dE_ dE_

def Q3_63 (Z : State) (o0 : Addr) (j0 j1 : Int64) (o2 o3 : Addr) (o4 o5 o6 : Addr) (i0 i1 : Int32) (i2 i3 i4 : Int32) (k0 : ClassId) (j2 j3 : Int64) (k2 : ClassId) (i5 i6 : Int32) (k3 : ClassId) (i7 i8 i9 : Int32) (h0 : Heap) (n0 : Nat) (v : Option Value) (h : Heap) (L : List Loc) : Prop := v = none ∧ Fr n0 L ∧ Keep h0 h [o5, o0] ∧ Arv Z h o5 k3 .int (8 : Int32) [(.int i7), (.int i2), (.int i9)] oZ ∧ Exa Z h o0 c0_ ∧ Fld Z h o0 c0_ "prices" "[J" (.ref o2) ∧ Fld Z h o0 c0_ "sizes" "[J" (.ref o3) ∧ Fld Z h o0 c0_ "left" "[I" (.ref o4) ∧ Fld Z h o0 c0_ "right" "[I" (.ref o5) ∧ Fld Z h o0 c0_ "heights" "[B" (.ref o6) ∧ Fld Z h o0 c0_ "root" "I" (.int (2 : Int32)) ∧ Fld Z h o0 c0_ "best" "I" (.int (2 : Int32)) ∧ Fld Z h o0 c0_ "unused" "I" (.int i1) ∧ Fld Z h o0 c0_ "free" "I" (.int (1 : Int32)) ∧ Fld Z h o0 c0_ "count" "I" (.int (i3 - (1 : Int32))) ∧ Fld Z h o0 c0_ "highestFirst" "Z" (.int i4)
set_option maxRecDepth 65536 in
set_option maxHeartbeats 40000000 in
theorem rm3_63 (l : Launch) (Z : State) (a0 : Array Value) (hw : oW_ a0 Z) (ws : List Jvm.Cond) (o0 : Addr) (j0 j1 : Int64) (o2 o3 : Addr) (o4 o5 o6 : Addr) (i0 i1 : Int32) (i2 i3 i4 : Int32) (k0 : ClassId) (j2 j3 : Int64) (k2 : ClassId) (i5 i6 : Int32) (k3 : ClassId) (i7 i8 i9 : Int32) (h0 : Heap) (n0 : Nat) (Z0 : n0 ≤ h0.size) (g_o0 : n0 ≤ o0) (E_o0 : Exa Z h0 o0 c0_) (F_prices_o0 : Fld Z h0 o0 c0_ "prices" "[J" (.ref o2)) (F_sizes_o0 : Fld Z h0 o0 c0_ "sizes" "[J" (.ref o3)) (F_left_o0 : Fld Z h0 o0 c0_ "left" "[I" (.ref o4)) (F_right_o0 : Fld Z h0 o0 c0_ "right" "[I" (.ref o5)) (F_heights_o0 : Fld Z h0 o0 c0_ "heights" "[B" (.ref o6)) (F_root_o0 : Fld Z h0 o0 c0_ "root" "I" (.int (1 : Int32))) (F_best_o0 : Fld Z h0 o0 c0_ "best" "I" (.int i0)) (F_unused_o0 : Fld Z h0 o0 c0_ "unused" "I" (.int i1)) (F_free_o0 : Fld Z h0 o0 c0_ "free" "I" (.int i2)) (F_count_o0 : Fld Z h0 o0 c0_ "count" "I" (.int i3)) (F_highestFirst_o0 : Fld Z h0 o0 c0_ "highestFirst" "Z" (.int i4)) (V_o2 : Arv Z h0 o2 k0 .long (8 : Int32) [(.long j2), (.long j0), (.long j3)] oY) (V_o4 : Arv Z h0 o4 k2 .int (8 : Int32) [(.int i5), (.int (2 : Int32)), (.int i6)] oZ) (g_o5 : n0 ≤ o5) (V_o5 : Arv Z h0 o5 k3 .int (8 : Int32) [(.int i7), (.int i8), (.int i9)] oZ) (hp0 : j1 = (0 : Int64)) (hp1 : ¬ ((fcp j0 j0 i4) < (0 : Int32))) (hp2 : ¬ ((0 : Int32) < (fcp j0 j0 i4))) (hp3 : i8 = (0 : Int32)) (ne_o2_o5 : o2 ≠ o5) (ne_o4_o5 : o4 ≠ o5) (hp4 : i6 = (0 : Int32)) :
    MetFree l y15_ (head1 (Jvm.Cond.code y15_ prog_3_method_4_code 5 none :: ws) (rM_ 3 0 0 49)) (fun a U => a = #[(.ref o0), (.long j0), (.long j1)] ∧ Z.Warmed39 U.vm ∧ U.heap = h0) (fun _ _ _ _ _ => True) (fun _ U o U' => ∃ v L, o = .returned v ∧ Q3_63 Z o0 j0 j1 o2 o3 o4 o5 o6 i0 i1 i2 i3 i4 k0 j2 j3 k2 i5 i6 k3 i7 i8 i9 h0 n0 v U'.heap L ∧ FrameEnd U o U' L (rM_ 3 0 0 49).cells (rM_ 3 0 0 49).slots) := by
  refine MetFree.of_bodySF (plainFor_of_name pn_3) hisR ?_
  intro p e s m args below meth c s₁ Bd hml0 hP hK
  obtain ⟨rfl, hZ, hh⟩ := hP
  have hx := Bd.exec
  have hby := Bd.bytes
  have hml : c.maxLocals = 5 := hml0
  have hown : s.vm.findClass c0_ = some m.cls := findClass_of_methodNamed Bd.named
  have hnm := (name_of_methodNamed Bd.named Bd.method).1
  have X0 : Stand p l e (rM_ 3 0 0 49) s m #[(.ref o0), (.long j0), (.long j1)] below meth c s₁ [] 0 0 := Stand.of_body Bd
  have e0 : s₁.heap = h0 := by rw [← hh, Bd.state]; rfl
  have N0 := Fr.nil n0
  have K0 : Keep h0 h0 [o5, o0] := Keep.refl h0 _
  change own_Go p e below (own_Post s (Q3_63 Z o0 j0 j1 o2 o3 o4 o5 o6 i0 i1 i2 i3 i4 k0 j2 j3 k2 i5 i6 k3 i7 i8 i9 h0 n0) (rM_ 3 0 0 49).cells (rM_ 3 0 0 49).slots) (s₁.setTop (entryFrame m #[(.ref o0), (.long j0), (.long j1)] 5))
  refine own_by (fun t k => castTop (ef_3 m o0 j0 j1) k) ?_
  show own_Go p e below _ (s₁.setTop (mkF m 0 (lA0_ o0 j0 j1) []))
  refine own_by (B := s₁.setTop (mkF m 9 (lA0_ o0 j0 j1) [(.ref o0), (.ref o0), (.ref o0)])) (fun t k => ?_) ?_
  · refine XS.lloadN X0.here hx rfl (hb hby d3_0) rfl ?_
    refine XS.lconst X0.here hx rfl (hb hby d3_1) ?_
    refine XS.lcmp X0.here hx rfl (hb hby d3_2) rfl ?_
    show Steps p.tables e below (s₁.setTop (mkF m 3 (lA0_ o0 j0 j1) [(.int (lcmpW j1 (0 : Int64)))])) _
    refine XS.ifNo X0.here hx rfl (hb hby d3_3) rfl ((if0 _ _).trans (teq ((lw_eq _ _).mpr hp0)).2) ?_
    show Steps p.tables e below (s₁.setTop (mkF m 6 (lA0_ o0 j0 j1) [])) _
    refine XS.aloadN X0.here hx rfl (hb hby d3_6) rfl rfl ?_
    refine XS.aloadN X0.here hx rfl (hb hby d3_7) rfl rfl ?_
    refine XS.aloadN X0.here hx rfl (hb hby d3_8) rfl rfl ?_
    exact k
  refine own_c1 (getF X0 hx hZ hown (host := "") (Or.inl (hW hw 23 rfl)) Via.refl e0 F_root_o0 rfl rfl (hb hby d3_9)) fun T1 X1 e1 => ?_
  show own_Go p e below _ (T1.setTop (mkF m 12 (lA0_ o0 j0 j1) [(.int (1 : Int32)), (.ref o0), (.ref o0)]))
  refine own_by (B := T1.setTop (mkF m 13 (lA0_ o0 j0 j1) [(.long j0), (.int (1 : Int32)), (.ref o0), (.ref o0)])) (fun t k => ?_) ?_
  · refine XS.lloadN X1.here hx rfl (hb hby d3_12) rfl ?_
    exact k
  refine own_cc (own_callP X1 hx hZ (y := y34_) hown (hW hw 197 rfl) (hW hw 198 rfl) (hW hw 3 rfl) (hW hw 200 rfl) (hW hw 199 rfl) (hW hw 2 rfl) dE_ (rm31_62 l Z a0 hw [] o0 j0 o2 o3 o4 o5 o6 (1 : Int32) i0 i1 i2 i3 i4 k0 j2 j3 k2 i5 (2 : Int32) i6 k3 i7 i8 i9 h0 n0 Z0 g_o0 E_o0 F_prices_o0 F_sizes_o0 F_left_o0 F_right_o0 F_heights_o0 F_root_o0 F_best_o0 F_unused_o0 F_free_o0 F_count_o0 F_highestFirst_o0 V_o2 V_o4 g_o5 V_o5 hp1 hp2 (by decide : ¬ ((2 : Int32) = (0 : Int32))) hp3 ne_o2_o5 ne_o4_o5) e1 1 dE_ dE_ dE_ dE_ rfl (by rw [hml]; rfl) o0 E_o0 [(.int (1 : Int32)), (.long j0)] [(.ref o0)] rfl (lenOf pd_17 rfl) rfl (by show 2 * 0 + _ ≤ _; exact Nat.le_of_eq rfl) (hb hby d3_13)) fun T3 L3 v3 X3 hQ3 => ?_
  obtain ⟨rfl, N3, K3, E_o0', F_prices_o0', F_sizes_o0', F_left_o0', F_right_o0', F_heights_o0', F_root_o0', F_best_o0', F_unused_o0', F_free_o0', F_count_o0', F_highestFirst_o0', V_o5'⟩ := hQ3
  replace N0 := Fr.app N0 N3
  have nx1 : o2 ≠ o0 := (Ne.symm (own_nev E_o0 (hW hw 2 rfl) V_o2))
  have nx2 : o4 ≠ o0 := (Ne.symm (own_nev E_o0 (hW hw 2 rfl) V_o4))
  replace E_o0 := E_o0.keep K3
  replace V_o2 := V_o2.keep K3 (ninS nx1 (ninS ne_o2_o5 nin0))
  replace V_o4 := V_o4.keep K3 (ninS nx2 (ninS ne_o4_o5 nin0))
  replace K0 := K0.trans K3 (allS (Or.inl (List.mem_of_getElem? (i := 1) rfl)) (allS (Or.inl (List.mem_of_getElem? (i := 0) rfl)) all0))
  replace Z0 := Nat.le_trans Z0 K3.1
  replace E_o0 := E_o0'
  have F_prices_o0 := F_prices_o0'
  have F_sizes_o0 := F_sizes_o0'
  have F_left_o0 := F_left_o0'
  have F_right_o0 := F_right_o0'
  have F_heights_o0 := F_heights_o0'
  have F_root_o0 := F_root_o0'
  have F_best_o0 := F_best_o0'
  have F_unused_o0 := F_unused_o0'
  have F_free_o0 := F_free_o0'
  have F_count_o0 := F_count_o0'
  have F_highestFirst_o0 := F_highestFirst_o0'
  have V_o5 := V_o5'
  show own_Go p e below _ (T3.setTop (mkF m 16 (lA0_ o0 j0 j1) [(.int (2 : Int32)), (.ref o0)]))
  refine own_c2 (putF X3 hx hZ hown (host := "") (Or.inl (hW hw 23 rfl)) Via.refl rfl F_root_o0 E_o0 (Or.inl (hW hw 24 rfl)) (hW hw 2 rfl) (ty := .int) dE_ rfl rfl rfl rfl (hb hby d3_16)) fun T4 h4 X4 e4 W4 => ?_
  replace F_root_o0 := F_root_o0.same W4
  have nx3 : o5 ≠ o0 := (Ne.symm (own_nev E_o0 (hW hw 2 rfl) V_o5))
  replace E_o0 := E_o0.wr W4
  replace V_o2 := V_o2.other W4 nx1
  replace V_o4 := V_o4.other W4 nx2
  replace F_prices_o0 := F_prices_o0.other W4 (Or.inr (sn24 hw))
  replace F_sizes_o0 := F_sizes_o0.other W4 (Or.inr (sn25 hw))
  replace F_left_o0 := F_left_o0.other W4 (Or.inr (sn26 hw))
  replace F_right_o0 := F_right_o0.other W4 (Or.inr (sn27 hw))
  replace F_heights_o0 := F_heights_o0.other W4 (Or.inr (sn28 hw))
  replace F_best_o0 := F_best_o0.other W4 (Or.inr (sn29 hw))
  replace F_unused_o0 := F_unused_o0.other W4 (Or.inr (sn30 hw))
  replace F_free_o0 := F_free_o0.other W4 (Or.inr (sn31 hw))
  replace F_count_o0 := F_count_o0.other W4 (Or.inr (sn32 hw))
  replace F_highestFirst_o0 := F_highestFirst_o0.other W4 (Or.inr (sn33 hw))
  replace V_o5 := V_o5.other W4 nx3
  replace K0 := K0.wr W4 (Or.inl (List.mem_of_getElem? (i := 1) rfl))
  replace Z0 := Nat.le_trans Z0 (Keep.of_wr W4).1
  replace N0 := Fr.snoc X4 N0 g_o0
  show own_Go p e below _ (T4.setTop (mkF m 19 (lA0_ o0 j0 j1) []))
  refine own_by (B := T4.setTop (mkF m 61 (lA0_ o0 j0 j1) [(.ref o0), (.ref o0)])) (fun t k => ?_) ?_
  · refine XS.goto X4.here hx rfl (pc0 := 19) (pc' := 59) rfl (hb hby d3_19) dE_ dE_ ?_
    show Steps p.tables e below (T4.setTop (mkF m 59 (lA0_ o0 j0 j1) [])) _
    refine XS.aloadN X4.here hx rfl (hb hby d3_59) rfl rfl ?_
    refine XS.aloadN X4.here hx rfl (hb hby d3_60) rfl rfl ?_
    exact k
  refine own_c1 (getF X4 hx hZ hown (host := "") (Or.inl (hW hw 23 rfl)) Via.refl e4 F_root_o0 rfl rfl (hb hby d3_61)) fun T5 X5 e5 => ?_
  show own_Go p e below _ (T5.setTop (mkF m 64 (lA0_ o0 j0 j1) [(.int (2 : Int32)), (.ref o0)]))
  refine own_c2 (putF X5 hx hZ hown (host := "") (Or.inl (hW hw 25 rfl)) Via.refl e5 F_best_o0 E_o0 (Or.inl (hW hw 26 rfl)) (hW hw 2 rfl) (ty := .int) dE_ rfl rfl rfl rfl (hb hby d3_64)) fun T6 h6 X6 e6 W6 => ?_
  replace F_best_o0 := F_best_o0.same W6
  replace E_o0 := E_o0.wr W6
  replace V_o2 := V_o2.other W6 nx1
  replace V_o4 := V_o4.other W6 nx2
  replace F_prices_o0 := F_prices_o0.other W6 (Or.inr (sn34 hw))
  replace F_sizes_o0 := F_sizes_o0.other W6 (Or.inr (sn35 hw))
  replace F_left_o0 := F_left_o0.other W6 (Or.inr (sn36 hw))
  replace F_right_o0 := F_right_o0.other W6 (Or.inr (sn37 hw))
  replace F_heights_o0 := F_heights_o0.other W6 (Or.inr (sn38 hw))
  replace F_root_o0 := F_root_o0.other W6 (Or.inr (sn39 hw))
  replace F_unused_o0 := F_unused_o0.other W6 (Or.inr (sn40 hw))
  replace F_free_o0 := F_free_o0.other W6 (Or.inr (sn41 hw))
  replace F_count_o0 := F_count_o0.other W6 (Or.inr (sn42 hw))
  replace F_highestFirst_o0 := F_highestFirst_o0.other W6 (Or.inr (sn43 hw))
  replace V_o5 := V_o5.other W6 nx3
  replace K0 := K0.wr W6 (Or.inl (List.mem_of_getElem? (i := 1) rfl))
  replace Z0 := Nat.le_trans Z0 (Keep.of_wr W6).1
  replace N0 := Fr.snoc X6 N0 g_o0
  show own_Go p e below _ (T6.setTop (mkF m 67 (lA0_ o0 j0 j1) []))
  refine own_by (B := T6.setTop (mkF m 68 (lA0_ o0 j0 j1) [(.ref o0)])) (fun t k => ?_) ?_
  · refine XS.aloadN X6.here hx rfl (hb hby d3_67) rfl rfl ?_
    exact k
  refine own_c1 (getF X6 hx hZ hown (host := "") (Or.inl (hW hw 16 rfl)) Via.refl e6 F_left_o0 rfl rfl (hb hby d3_68)) fun T7 X7 e7 => ?_
  show own_Go p e below _ (T7.setTop (mkF m 71 (lA0_ o0 j0 j1) [(.ref o4)]))
  refine own_by (B := T7.setTop (mkF m 72 (lA0_ o0 j0 j1) [(.ref o0), (.ref o4)])) (fun t k => ?_) ?_
  · refine XS.aloadN X7.here hx rfl (hb hby d3_71) rfl rfl ?_
    exact k
  refine own_c1 (getF X7 hx hZ hown (host := "") (Or.inl (hW hw 25 rfl)) Via.refl e7 F_best_o0 rfl rfl (hb hby d3_72)) fun T8 X8 e8 => ?_
  show own_Go p e below _ (T8.setTop (mkF m 75 (lA0_ o0 j0 j1) [(.int (2 : Int32)), (.ref o4)]))
  refine own_by (B := T8.setTop (mkF m 95 (lA0_ o0 j0 j1) [])) (fun t k => ?_) ?_
  · obtain ⟨cl9, Ar9, q9, S9, N9, H9, G9⟩ := id V_o4
    have hin9 : ¬ ((2 : Int32) < 0 ∨ cl9.slots.size ≤ ((2 : Int32)).toNatClampNeg) := inb_of S9 ⟨by decide, by decide⟩
    have hat9 : cl9.slots[((2 : Int32)).toNatClampNeg]? = some (.int i6) := H9.at hin9 rfl
    refine X8.iaload hx (j := (2 : Int32)) (v := (.int i6)) (by rw [show T8.heap = h6 from e8]; exact Ar9.1) (State.isArrayOf_alike hZ.alike Ar9.2.1) Ar9.2.2 hin9 hat9 (g := (mkF m 75 (lA0_ o0 j0 j1) [(.int (2 : Int32)), (.ref o4)])) rfl rfl (hb hby d3_75) _ ?_
    show Steps p.tables e below (T8.setTop (mkF m 76 (lA0_ o0 j0 j1) [(.int i6)])) _
    refine XS.ifYes X8.here hx rfl (pc0 := 76) (pc' := 95) rfl (hb hby d3_76) rfl ((if0 _ _).trans (teq hp4).1) dE_ dE_ ?_
    show Steps p.tables e below (T8.setTop (mkF m 95 (lA0_ o0 j0 j1) [])) _
    exact k
  exact own_retV X8 Bd.notSynchronized hx Bd.returns (hb hby d3_95) (by
      try rw [show T8.heap = h6 from e8]
      exact ⟨rfl, N0, K0, V_o5, E_o0, F_prices_o0, F_sizes_o0, F_left_o0, F_right_o0, F_heights_o0, F_root_o0, F_best_o0, F_unused_o0, F_free_o0, F_count_o0, F_highestFirst_o0⟩) dE_ dE_

def Q3_64 (Z : State) (o0 : Addr) (j0 j1 : Int64) (o2 o3 : Addr) (o4 o5 o6 : Addr) (i0 i1 : Int32) (i2 i3 i4 : Int32) (k0 : ClassId) (j2 j3 : Int64) (k2 : ClassId) (i5 i6 i7 : Int32) (k3 : ClassId) (i8 i9 : Int32) (h0 : Heap) (n0 : Nat) (v : Option Value) (h : Heap) (L : List Loc) : Prop := v = none ∧ Fr n0 L ∧ Keep h0 h [o5, o0] ∧ Arv Z h o5 k3 .int (8 : Int32) [(.int i8), (.int i2), (.int i9)] oZ ∧ Exa Z h o0 c0_ ∧ Fld Z h o0 c0_ "prices" "[J" (.ref o2) ∧ Fld Z h o0 c0_ "sizes" "[J" (.ref o3) ∧ Fld Z h o0 c0_ "left" "[I" (.ref o4) ∧ Fld Z h o0 c0_ "right" "[I" (.ref o5) ∧ Fld Z h o0 c0_ "heights" "[B" (.ref o6) ∧ Fld Z h o0 c0_ "root" "I" (.int (2 : Int32)) ∧ Fld Z h o0 c0_ "best" "I" (.int (2 : Int32)) ∧ Fld Z h o0 c0_ "unused" "I" (.int i1) ∧ Fld Z h o0 c0_ "free" "I" (.int (1 : Int32)) ∧ Fld Z h o0 c0_ "count" "I" (.int (i3 - (1 : Int32))) ∧ Fld Z h o0 c0_ "highestFirst" "Z" (.int i4)
set_option maxRecDepth 65536 in
set_option maxHeartbeats 40000000 in
theorem rm3_64 (l : Launch) (Z : State) (a0 : Array Value) (hw : oW_ a0 Z) (ws : List Jvm.Cond) (o0 : Addr) (j0 j1 : Int64) (o2 o3 : Addr) (o4 o5 o6 : Addr) (i0 i1 : Int32) (i2 i3 i4 : Int32) (k0 : ClassId) (j2 j3 : Int64) (k2 : ClassId) (i5 i6 i7 : Int32) (k3 : ClassId) (i8 i9 : Int32) (h0 : Heap) (n0 : Nat) (Z0 : n0 ≤ h0.size) (g_o0 : n0 ≤ o0) (E_o0 : Exa Z h0 o0 c0_) (F_prices_o0 : Fld Z h0 o0 c0_ "prices" "[J" (.ref o2)) (F_sizes_o0 : Fld Z h0 o0 c0_ "sizes" "[J" (.ref o3)) (F_left_o0 : Fld Z h0 o0 c0_ "left" "[I" (.ref o4)) (F_right_o0 : Fld Z h0 o0 c0_ "right" "[I" (.ref o5)) (F_heights_o0 : Fld Z h0 o0 c0_ "heights" "[B" (.ref o6)) (F_root_o0 : Fld Z h0 o0 c0_ "root" "I" (.int (1 : Int32))) (F_best_o0 : Fld Z h0 o0 c0_ "best" "I" (.int i0)) (F_unused_o0 : Fld Z h0 o0 c0_ "unused" "I" (.int i1)) (F_free_o0 : Fld Z h0 o0 c0_ "free" "I" (.int i2)) (F_count_o0 : Fld Z h0 o0 c0_ "count" "I" (.int i3)) (F_highestFirst_o0 : Fld Z h0 o0 c0_ "highestFirst" "Z" (.int i4)) (V_o2 : Arv Z h0 o2 k0 .long (8 : Int32) [(.long j2), (.long j0), (.long j3)] oY) (V_o4 : Arv Z h0 o4 k2 .int (8 : Int32) [(.int i5), (.int i6), (.int i7)] oZ) (g_o5 : n0 ≤ o5) (V_o5 : Arv Z h0 o5 k3 .int (8 : Int32) [(.int i8), (.int (2 : Int32)), (.int i9)] oZ) (hp0 : j1 = (0 : Int64)) (hp1 : ¬ ((fcp j0 j0 i4) < (0 : Int32))) (hp2 : ¬ ((0 : Int32) < (fcp j0 j0 i4))) (hp3 : i6 = (0 : Int32)) (ne_o2_o5 : o2 ≠ o5) (ne_o4_o5 : o4 ≠ o5) (hp4 : i7 = (0 : Int32)) :
    MetFree l y15_ (head1 (Jvm.Cond.code y15_ prog_3_method_4_code 5 none :: ws) (rM_ 3 0 0 49)) (fun a U => a = #[(.ref o0), (.long j0), (.long j1)] ∧ Z.Warmed39 U.vm ∧ U.heap = h0) (fun _ _ _ _ _ => True) (fun _ U o U' => ∃ v L, o = .returned v ∧ Q3_64 Z o0 j0 j1 o2 o3 o4 o5 o6 i0 i1 i2 i3 i4 k0 j2 j3 k2 i5 i6 i7 k3 i8 i9 h0 n0 v U'.heap L ∧ FrameEnd U o U' L (rM_ 3 0 0 49).cells (rM_ 3 0 0 49).slots) := by
  refine MetFree.of_bodySF (plainFor_of_name pn_3) hisR ?_
  intro p e s m args below meth c s₁ Bd hml0 hP hK
  obtain ⟨rfl, hZ, hh⟩ := hP
  have hx := Bd.exec
  have hby := Bd.bytes
  have hml : c.maxLocals = 5 := hml0
  have hown : s.vm.findClass c0_ = some m.cls := findClass_of_methodNamed Bd.named
  have hnm := (name_of_methodNamed Bd.named Bd.method).1
  have X0 : Stand p l e (rM_ 3 0 0 49) s m #[(.ref o0), (.long j0), (.long j1)] below meth c s₁ [] 0 0 := Stand.of_body Bd
  have e0 : s₁.heap = h0 := by rw [← hh, Bd.state]; rfl
  have N0 := Fr.nil n0
  have K0 : Keep h0 h0 [o5, o0] := Keep.refl h0 _
  change own_Go p e below (own_Post s (Q3_64 Z o0 j0 j1 o2 o3 o4 o5 o6 i0 i1 i2 i3 i4 k0 j2 j3 k2 i5 i6 i7 k3 i8 i9 h0 n0) (rM_ 3 0 0 49).cells (rM_ 3 0 0 49).slots) (s₁.setTop (entryFrame m #[(.ref o0), (.long j0), (.long j1)] 5))
  refine own_by (fun t k => castTop (ef_3 m o0 j0 j1) k) ?_
  show own_Go p e below _ (s₁.setTop (mkF m 0 (lA0_ o0 j0 j1) []))
  refine own_by (B := s₁.setTop (mkF m 9 (lA0_ o0 j0 j1) [(.ref o0), (.ref o0), (.ref o0)])) (fun t k => ?_) ?_
  · refine XS.lloadN X0.here hx rfl (hb hby d3_0) rfl ?_
    refine XS.lconst X0.here hx rfl (hb hby d3_1) ?_
    refine XS.lcmp X0.here hx rfl (hb hby d3_2) rfl ?_
    show Steps p.tables e below (s₁.setTop (mkF m 3 (lA0_ o0 j0 j1) [(.int (lcmpW j1 (0 : Int64)))])) _
    refine XS.ifNo X0.here hx rfl (hb hby d3_3) rfl ((if0 _ _).trans (teq ((lw_eq _ _).mpr hp0)).2) ?_
    show Steps p.tables e below (s₁.setTop (mkF m 6 (lA0_ o0 j0 j1) [])) _
    refine XS.aloadN X0.here hx rfl (hb hby d3_6) rfl rfl ?_
    refine XS.aloadN X0.here hx rfl (hb hby d3_7) rfl rfl ?_
    refine XS.aloadN X0.here hx rfl (hb hby d3_8) rfl rfl ?_
    exact k
  refine own_c1 (getF X0 hx hZ hown (host := "") (Or.inl (hW hw 23 rfl)) Via.refl e0 F_root_o0 rfl rfl (hb hby d3_9)) fun T1 X1 e1 => ?_
  show own_Go p e below _ (T1.setTop (mkF m 12 (lA0_ o0 j0 j1) [(.int (1 : Int32)), (.ref o0), (.ref o0)]))
  refine own_by (B := T1.setTop (mkF m 13 (lA0_ o0 j0 j1) [(.long j0), (.int (1 : Int32)), (.ref o0), (.ref o0)])) (fun t k => ?_) ?_
  · refine XS.lloadN X1.here hx rfl (hb hby d3_12) rfl ?_
    exact k
  refine own_cc (own_callP X1 hx hZ (y := y34_) hown (hW hw 197 rfl) (hW hw 198 rfl) (hW hw 3 rfl) (hW hw 200 rfl) (hW hw 199 rfl) (hW hw 2 rfl) dE_ (rm31_60 l Z a0 hw [] o0 j0 o2 o3 o4 o5 o6 (1 : Int32) i0 i1 i2 i3 i4 k0 j2 j3 k2 i5 i6 i7 k3 i8 (2 : Int32) i9 h0 n0 Z0 g_o0 E_o0 F_prices_o0 F_sizes_o0 F_left_o0 F_right_o0 F_heights_o0 F_root_o0 F_best_o0 F_unused_o0 F_free_o0 F_count_o0 F_highestFirst_o0 V_o2 V_o4 g_o5 V_o5 hp1 hp2 hp3 ne_o2_o5 ne_o4_o5) e1 1 dE_ dE_ dE_ dE_ rfl (by rw [hml]; rfl) o0 E_o0 [(.int (1 : Int32)), (.long j0)] [(.ref o0)] rfl (lenOf pd_17 rfl) rfl (by show 2 * 0 + _ ≤ _; exact Nat.le_of_eq rfl) (hb hby d3_13)) fun T3 L3 v3 X3 hQ3 => ?_
  obtain ⟨rfl, N3, K3, E_o0', F_prices_o0', F_sizes_o0', F_left_o0', F_right_o0', F_heights_o0', F_root_o0', F_best_o0', F_unused_o0', F_free_o0', F_count_o0', F_highestFirst_o0', V_o5'⟩ := hQ3
  replace N0 := Fr.app N0 N3
  have nx1 : o2 ≠ o0 := (Ne.symm (own_nev E_o0 (hW hw 2 rfl) V_o2))
  have nx2 : o4 ≠ o0 := (Ne.symm (own_nev E_o0 (hW hw 2 rfl) V_o4))
  replace E_o0 := E_o0.keep K3
  replace V_o2 := V_o2.keep K3 (ninS nx1 (ninS ne_o2_o5 nin0))
  replace V_o4 := V_o4.keep K3 (ninS nx2 (ninS ne_o4_o5 nin0))
  replace K0 := K0.trans K3 (allS (Or.inl (List.mem_of_getElem? (i := 1) rfl)) (allS (Or.inl (List.mem_of_getElem? (i := 0) rfl)) all0))
  replace Z0 := Nat.le_trans Z0 K3.1
  replace E_o0 := E_o0'
  have F_prices_o0 := F_prices_o0'
  have F_sizes_o0 := F_sizes_o0'
  have F_left_o0 := F_left_o0'
  have F_right_o0 := F_right_o0'
  have F_heights_o0 := F_heights_o0'
  have F_root_o0 := F_root_o0'
  have F_best_o0 := F_best_o0'
  have F_unused_o0 := F_unused_o0'
  have F_free_o0 := F_free_o0'
  have F_count_o0 := F_count_o0'
  have F_highestFirst_o0 := F_highestFirst_o0'
  have V_o5 := V_o5'
  show own_Go p e below _ (T3.setTop (mkF m 16 (lA0_ o0 j0 j1) [(.int (2 : Int32)), (.ref o0)]))
  refine own_c2 (putF X3 hx hZ hown (host := "") (Or.inl (hW hw 23 rfl)) Via.refl rfl F_root_o0 E_o0 (Or.inl (hW hw 24 rfl)) (hW hw 2 rfl) (ty := .int) dE_ rfl rfl rfl rfl (hb hby d3_16)) fun T4 h4 X4 e4 W4 => ?_
  replace F_root_o0 := F_root_o0.same W4
  have nx3 : o5 ≠ o0 := (Ne.symm (own_nev E_o0 (hW hw 2 rfl) V_o5))
  replace E_o0 := E_o0.wr W4
  replace V_o2 := V_o2.other W4 nx1
  replace V_o4 := V_o4.other W4 nx2
  replace F_prices_o0 := F_prices_o0.other W4 (Or.inr (sn24 hw))
  replace F_sizes_o0 := F_sizes_o0.other W4 (Or.inr (sn25 hw))
  replace F_left_o0 := F_left_o0.other W4 (Or.inr (sn26 hw))
  replace F_right_o0 := F_right_o0.other W4 (Or.inr (sn27 hw))
  replace F_heights_o0 := F_heights_o0.other W4 (Or.inr (sn28 hw))
  replace F_best_o0 := F_best_o0.other W4 (Or.inr (sn29 hw))
  replace F_unused_o0 := F_unused_o0.other W4 (Or.inr (sn30 hw))
  replace F_free_o0 := F_free_o0.other W4 (Or.inr (sn31 hw))
  replace F_count_o0 := F_count_o0.other W4 (Or.inr (sn32 hw))
  replace F_highestFirst_o0 := F_highestFirst_o0.other W4 (Or.inr (sn33 hw))
  replace V_o5 := V_o5.other W4 nx3
  replace K0 := K0.wr W4 (Or.inl (List.mem_of_getElem? (i := 1) rfl))
  replace Z0 := Nat.le_trans Z0 (Keep.of_wr W4).1
  replace N0 := Fr.snoc X4 N0 g_o0
  show own_Go p e below _ (T4.setTop (mkF m 19 (lA0_ o0 j0 j1) []))
  refine own_by (B := T4.setTop (mkF m 61 (lA0_ o0 j0 j1) [(.ref o0), (.ref o0)])) (fun t k => ?_) ?_
  · refine XS.goto X4.here hx rfl (pc0 := 19) (pc' := 59) rfl (hb hby d3_19) dE_ dE_ ?_
    show Steps p.tables e below (T4.setTop (mkF m 59 (lA0_ o0 j0 j1) [])) _
    refine XS.aloadN X4.here hx rfl (hb hby d3_59) rfl rfl ?_
    refine XS.aloadN X4.here hx rfl (hb hby d3_60) rfl rfl ?_
    exact k
  refine own_c1 (getF X4 hx hZ hown (host := "") (Or.inl (hW hw 23 rfl)) Via.refl e4 F_root_o0 rfl rfl (hb hby d3_61)) fun T5 X5 e5 => ?_
  show own_Go p e below _ (T5.setTop (mkF m 64 (lA0_ o0 j0 j1) [(.int (2 : Int32)), (.ref o0)]))
  refine own_c2 (putF X5 hx hZ hown (host := "") (Or.inl (hW hw 25 rfl)) Via.refl e5 F_best_o0 E_o0 (Or.inl (hW hw 26 rfl)) (hW hw 2 rfl) (ty := .int) dE_ rfl rfl rfl rfl (hb hby d3_64)) fun T6 h6 X6 e6 W6 => ?_
  replace F_best_o0 := F_best_o0.same W6
  replace E_o0 := E_o0.wr W6
  replace V_o2 := V_o2.other W6 nx1
  replace V_o4 := V_o4.other W6 nx2
  replace F_prices_o0 := F_prices_o0.other W6 (Or.inr (sn34 hw))
  replace F_sizes_o0 := F_sizes_o0.other W6 (Or.inr (sn35 hw))
  replace F_left_o0 := F_left_o0.other W6 (Or.inr (sn36 hw))
  replace F_right_o0 := F_right_o0.other W6 (Or.inr (sn37 hw))
  replace F_heights_o0 := F_heights_o0.other W6 (Or.inr (sn38 hw))
  replace F_root_o0 := F_root_o0.other W6 (Or.inr (sn39 hw))
  replace F_unused_o0 := F_unused_o0.other W6 (Or.inr (sn40 hw))
  replace F_free_o0 := F_free_o0.other W6 (Or.inr (sn41 hw))
  replace F_count_o0 := F_count_o0.other W6 (Or.inr (sn42 hw))
  replace F_highestFirst_o0 := F_highestFirst_o0.other W6 (Or.inr (sn43 hw))
  replace V_o5 := V_o5.other W6 nx3
  replace K0 := K0.wr W6 (Or.inl (List.mem_of_getElem? (i := 1) rfl))
  replace Z0 := Nat.le_trans Z0 (Keep.of_wr W6).1
  replace N0 := Fr.snoc X6 N0 g_o0
  show own_Go p e below _ (T6.setTop (mkF m 67 (lA0_ o0 j0 j1) []))
  refine own_by (B := T6.setTop (mkF m 68 (lA0_ o0 j0 j1) [(.ref o0)])) (fun t k => ?_) ?_
  · refine XS.aloadN X6.here hx rfl (hb hby d3_67) rfl rfl ?_
    exact k
  refine own_c1 (getF X6 hx hZ hown (host := "") (Or.inl (hW hw 16 rfl)) Via.refl e6 F_left_o0 rfl rfl (hb hby d3_68)) fun T7 X7 e7 => ?_
  show own_Go p e below _ (T7.setTop (mkF m 71 (lA0_ o0 j0 j1) [(.ref o4)]))
  refine own_by (B := T7.setTop (mkF m 72 (lA0_ o0 j0 j1) [(.ref o0), (.ref o4)])) (fun t k => ?_) ?_
  · refine XS.aloadN X7.here hx rfl (hb hby d3_71) rfl rfl ?_
    exact k
  refine own_c1 (getF X7 hx hZ hown (host := "") (Or.inl (hW hw 25 rfl)) Via.refl e7 F_best_o0 rfl rfl (hb hby d3_72)) fun T8 X8 e8 => ?_
  show own_Go p e below _ (T8.setTop (mkF m 75 (lA0_ o0 j0 j1) [(.int (2 : Int32)), (.ref o4)]))
  refine own_by (B := T8.setTop (mkF m 95 (lA0_ o0 j0 j1) [])) (fun t k => ?_) ?_
  · obtain ⟨cl9, Ar9, q9, S9, N9, H9, G9⟩ := id V_o4
    have hin9 : ¬ ((2 : Int32) < 0 ∨ cl9.slots.size ≤ ((2 : Int32)).toNatClampNeg) := inb_of S9 ⟨by decide, by decide⟩
    have hat9 : cl9.slots[((2 : Int32)).toNatClampNeg]? = some (.int i7) := H9.at hin9 rfl
    refine X8.iaload hx (j := (2 : Int32)) (v := (.int i7)) (by rw [show T8.heap = h6 from e8]; exact Ar9.1) (State.isArrayOf_alike hZ.alike Ar9.2.1) Ar9.2.2 hin9 hat9 (g := (mkF m 75 (lA0_ o0 j0 j1) [(.int (2 : Int32)), (.ref o4)])) rfl rfl (hb hby d3_75) _ ?_
    show Steps p.tables e below (T8.setTop (mkF m 76 (lA0_ o0 j0 j1) [(.int i7)])) _
    refine XS.ifYes X8.here hx rfl (pc0 := 76) (pc' := 95) rfl (hb hby d3_76) rfl ((if0 _ _).trans (teq hp4).1) dE_ dE_ ?_
    show Steps p.tables e below (T8.setTop (mkF m 95 (lA0_ o0 j0 j1) [])) _
    exact k
  exact own_retV X8 Bd.notSynchronized hx Bd.returns (hb hby d3_95) (by
      try rw [show T8.heap = h6 from e8]
      exact ⟨rfl, N0, K0, V_o5, E_o0, F_prices_o0, F_sizes_o0, F_left_o0, F_right_o0, F_heights_o0, F_root_o0, F_best_o0, F_unused_o0, F_free_o0, F_count_o0, F_highestFirst_o0⟩) dE_ dE_

theorem pd_0 : parseMethodDescriptor "(Z)V" = some ⟨[.boolean], none⟩ := by decide +kernel
theorem ef_0 (m : MethodId) (x0 : Int32) (x1 x2 : Int64) (x3 x4 x5 : Int64) : entryFrame m #[(.int x0), (.long x1), (.long x2), (.long x3), (.long x4), (.long x5)] maxLocals = mkF m 0 (lA14_ x0 x1 x2 x3 x4 x5) [] := by first | (simp [entryFrame, mkF, argsToLocals, Value.category, maxLocals]; done) | rfl
def Q0 (Z : State) (p0 : Int32) (q1 q2 : Int64) (q3 q4 q5 : Int64) (em : Addr) (h0 : Heap) (n0 : Nat) (v : Option Value) (h : Heap) (L : List Loc) : Prop := v = some (.int (1 : Int32)) ∧ Fr n0 L
set_option maxRecDepth 65536 in
set_option maxHeartbeats 40000000 in
theorem rm0 (l : Launch) (Z : State) (a0 : Array Value) (hw : oW_ a0 Z) (ws : List Jvm.Cond) (p0 : Int32) (q1 q2 : Int64) (q3 q4 q5 : Int64) (em : Addr) (h0 : Heap) (n0 : Nat) (Z0 : n0 ≤ h0.size) (OZ : Old Z n0 h0) (S_EMPTY_ELEMENTDATA : Sta Z Z.heap c1_ c16_ c5_ (.ref em)) :
    MetFree l x (head1 (Jvm.Cond.code x code maxLocals ret :: ws) room_1) (fun a U => a = #[(.int p0), (.long q1), (.long q2), (.long q3), (.long q4), (.long q5)] ∧ Z.Warmed39 U.vm ∧ U.heap = h0) (fun _ _ _ _ _ => True) (fun _ U o U' => ∃ v L, o = .returned v ∧ Q0 Z p0 q1 q2 q3 q4 q5 em h0 n0 v U'.heap L ∧ FrameEnd U o U' L room_1.cells room_1.slots) := by
  refine MetFree.of_bodySF (plainFor_of_name pn_0) hisR ?_
  intro p e s m args below meth c s₁ Bd hml0 hP hK
  obtain ⟨rfl, hZ, hh⟩ := hP
  have hx := Bd.exec
  have hby := Bd.bytes
  have hml : c.maxLocals = 26 := hml0
  have hown : s.vm.findClass c20_ = some m.cls := findClass_of_methodNamed Bd.named
  have hnm := (name_of_methodNamed Bd.named Bd.method).1
  have X0 : Stand p l e room_1 s m #[(.int p0), (.long q1), (.long q2), (.long q3), (.long q4), (.long q5)] below meth c s₁ [] 0 0 := Stand.of_body Bd
  have e0 : s₁.heap = h0 := by rw [← hh, Bd.state]; rfl
  have N0 := Fr.nil n0
  change own_Go p e below (own_Post s (Q0 Z p0 q1 q2 q3 q4 q5 em h0 n0) room_1.cells room_1.slots) (s₁.setTop (entryFrame m #[(.int p0), (.long q1), (.long q2), (.long q3), (.long q4), (.long q5)] maxLocals))
  refine own_by (fun t k => castTop (ef_0 m p0 q1 q2 q3 q4 q5) k) ?_
  show own_Go p e below _ (s₁.setTop (mkF m 0 (lA14_ p0 q1 q2 q3 q4 q5) []))
  refine own_by (B := s₁.setTop (mkF m 13 (lA15_ p0 q1 q2 q3 q4 q5 (if (p0 &&& (1 : Int32)) = (0 : Int32) then (0 : Int32) else (1 : Int32))) [])) (fun t k => ?_) ?_
  · refine XS.iloadN X0.here hx rfl (hb hby at_0) rfl ?_
    refine XS.iconst X0.here hx rfl (hb hby at_1) ?_
    refine XS.iand X0.here hx rfl (hb hby at_2) rfl ?_
    show Steps p.tables e below (s₁.setTop (mkF m 3 (lA14_ p0 q1 q2 q3 q4 q5) [(.int (p0 &&& (1 : Int32)))])) _
    refine (fun t (k : Steps p.tables e below (s₁.setTop (mkF m 11 (lA14_ p0 q1 q2 q3 q4 q5) [(.int (if (p0 &&& (1 : Int32)) = (0 : Int32) then (0 : Int32) else (1 : Int32)))])) t) => (?_ : Steps p.tables e below _ t)) _ ?_
    · by_cases hc1 : (p0 &&& (1 : Int32)) = (0 : Int32)
      · simp only [if_pos hc1] at k
        refine XS.ifYes X0.here hx rfl (pc0 := 3) (pc' := 10) rfl (hb hby at_3) rfl ((if0 _ _).trans (teq hc1).1) dE_ dE_ ?_
        show Steps p.tables e below (s₁.setTop (mkF m 10 (lA14_ p0 q1 q2 q3 q4 q5) [])) _
        refine XS.iconst X0.here hx rfl (hb hby at_10) ?_
        exact k
      · simp only [if_neg hc1] at k
        refine XS.ifNo X0.here hx rfl (hb hby at_3) rfl ((if0 _ _).trans (feq hc1).1) ?_
        show Steps p.tables e below (s₁.setTop (mkF m 6 (lA14_ p0 q1 q2 q3 q4 q5) [])) _
        refine XS.iconst X0.here hx rfl (hb hby at_6) ?_
        refine XS.goto X0.here hx rfl (pc0 := 7) (pc' := 11) rfl (hb hby at_7) dE_ dE_ ?_
        show Steps p.tables e below (s₁.setTop (mkF m 11 (lA14_ p0 q1 q2 q3 q4 q5) [(.int (1 : Int32))])) _
        exact k
    show Steps p.tables e below (s₁.setTop (mkF m 11 (lA14_ p0 q1 q2 q3 q4 q5) [(.int (if (p0 &&& (1 : Int32)) = (0 : Int32) then (0 : Int32) else (1 : Int32)))])) _
    refine XS.istore X0.here hx rfl (hb hby at_11) rfl (l' := (lA15_ p0 q1 q2 q3 q4 q5 (if (p0 &&& (1 : Int32)) = (0 : Int32) then (0 : Int32) else (1 : Int32)))) rfl ?_
    show Steps p.tables e below (s₁.setTop (mkF m 13 (lA15_ p0 q1 q2 q3 q4 q5 (if (p0 &&& (1 : Int32)) = (0 : Int32) then (0 : Int32) else (1 : Int32))) [])) _
    exact k
  generalize hhi : (if (p0 &&& (1 : Int32)) = (0 : Int32) then (0 : Int32) else (1 : Int32)) = hi
  show own_Go p e below _ (s₁.setTop (mkF m 13 (lA15_ p0 q1 q2 q3 q4 q5 hi) []))
  refine own_by (B := s₁.setTop (mkF m 31 (lA16_ p0 q1 q2 q3 q4 q5 hi (if (q4 &&& (9223372036854775807 : Int64)) = (0 : Int64) then (1 : Int64) else (q4 &&& (9223372036854775807 : Int64)))) [])) (fun t k => ?_) ?_
  · refine XS.lload X0.here hx rfl (hb hby at_13) rfl ?_
    refine X0.ldc2Long hx hown (mvT hZ (hW hw 0 rfl)) (g := (mkF m 15 (lA15_ p0 q1 q2 q3 q4 q5 hi) [(.long q4)])) rfl (hb hby at_15) _ ?_
    show Steps p.tables e below (s₁.setTop (mkF m 18 (lA15_ p0 q1 q2 q3 q4 q5 hi) [(.long (9223372036854775807 : Int64)), (.long q4)])) _
    refine XS.land X0.here hx rfl (hb hby at_18) rfl ?_
    show Steps p.tables e below (s₁.setTop (mkF m 19 (lA15_ p0 q1 q2 q3 q4 q5 hi) [(.long (q4 &&& (9223372036854775807 : Int64)))])) _
    refine XS.lstore X0.here hx rfl (hb hby at_19) rfl (l' := (lA16_ p0 q1 q2 q3 q4 q5 hi (q4 &&& (9223372036854775807 : Int64)))) rfl ?_
    show Steps p.tables e below (s₁.setTop (mkF m 21 (lA16_ p0 q1 q2 q3 q4 q5 hi (q4 &&& (9223372036854775807 : Int64))) [])) _
    refine XS.lload X0.here hx rfl (hb hby at_21) rfl ?_
    refine XS.lconst X0.here hx rfl (hb hby at_23) ?_
    refine XS.lcmp X0.here hx rfl (hb hby at_24) rfl ?_
    show Steps p.tables e below (s₁.setTop (mkF m 25 (lA16_ p0 q1 q2 q3 q4 q5 hi (q4 &&& (9223372036854775807 : Int64))) [(.int (lcmpW (q4 &&& (9223372036854775807 : Int64)) (0 : Int64)))])) _
    refine (fun t (k : Steps p.tables e below (s₁.setTop (mkF m 31 (lA16_ p0 q1 q2 q3 q4 q5 hi (if (q4 &&& (9223372036854775807 : Int64)) = (0 : Int64) then (1 : Int64) else (q4 &&& (9223372036854775807 : Int64)))) [])) t) => (?_ : Steps p.tables e below _ t)) _ ?_
    · by_cases hc2 : (q4 &&& (9223372036854775807 : Int64)) = (0 : Int64)
      · simp only [if_pos hc2] at k
        refine XS.ifNo X0.here hx rfl (hb hby at_25) rfl ((if0 _ _).trans (teq ((lw_eq _ _).mpr hc2)).2) ?_
        show Steps p.tables e below (s₁.setTop (mkF m 28 (lA16_ p0 q1 q2 q3 q4 q5 hi (q4 &&& (9223372036854775807 : Int64))) [])) _
        refine XS.lconst X0.here hx rfl (hb hby at_28) ?_
        refine XS.lstore X0.here hx rfl (hb hby at_29) rfl (l' := (lA16_ p0 q1 q2 q3 q4 q5 hi (1 : Int64))) rfl ?_
        show Steps p.tables e below (s₁.setTop (mkF m 31 (lA16_ p0 q1 q2 q3 q4 q5 hi (1 : Int64)) [])) _
        exact k
      · simp only [if_neg hc2] at k
        refine XS.ifYes X0.here hx rfl (pc0 := 25) (pc' := 31) rfl (hb hby at_25) rfl ((if0 _ _).trans (feq (fun q => hc2 ((lw_eq _ _).mp q))).2) dE_ dE_ ?_
        show Steps p.tables e below (s₁.setTop (mkF m 31 (lA16_ p0 q1 q2 q3 q4 q5 hi (q4 &&& (9223372036854775807 : Int64))) [])) _
        exact k
    show Steps p.tables e below (s₁.setTop (mkF m 31 (lA16_ p0 q1 q2 q3 q4 q5 hi (if (q4 &&& (9223372036854775807 : Int64)) = (0 : Int64) then (1 : Int64) else (q4 &&& (9223372036854775807 : Int64)))) [])) _
    exact k
  generalize haa : (if (q4 &&& (9223372036854775807 : Int64)) = (0 : Int64) then (1 : Int64) else (q4 &&& (9223372036854775807 : Int64))) = aa
  show own_Go p e below _ (s₁.setTop (mkF m 31 (lA16_ p0 q1 q2 q3 q4 q5 hi aa) []))
  refine own_by (B := s₁.setTop (mkF m 49 (lA17_ p0 q1 q2 q3 q4 q5 hi aa (if (q5 &&& (9223372036854775807 : Int64)) = (0 : Int64) then (1 : Int64) else (q5 &&& (9223372036854775807 : Int64)))) [])) (fun t k => ?_) ?_
  · refine XS.lload X0.here hx rfl (hb hby at_31) rfl ?_
    refine X0.ldc2Long hx hown (mvT hZ (hW hw 0 rfl)) (g := (mkF m 33 (lA16_ p0 q1 q2 q3 q4 q5 hi aa) [(.long q5)])) rfl (hb hby at_33) _ ?_
    show Steps p.tables e below (s₁.setTop (mkF m 36 (lA16_ p0 q1 q2 q3 q4 q5 hi aa) [(.long (9223372036854775807 : Int64)), (.long q5)])) _
    refine XS.land X0.here hx rfl (hb hby at_36) rfl ?_
    show Steps p.tables e below (s₁.setTop (mkF m 37 (lA16_ p0 q1 q2 q3 q4 q5 hi aa) [(.long (q5 &&& (9223372036854775807 : Int64)))])) _
    refine XS.lstore X0.here hx rfl (hb hby at_37) rfl (l' := (lA17_ p0 q1 q2 q3 q4 q5 hi aa (q5 &&& (9223372036854775807 : Int64)))) rfl ?_
    show Steps p.tables e below (s₁.setTop (mkF m 39 (lA17_ p0 q1 q2 q3 q4 q5 hi aa (q5 &&& (9223372036854775807 : Int64))) [])) _
    refine XS.lload X0.here hx rfl (hb hby at_39) rfl ?_
    refine XS.lconst X0.here hx rfl (hb hby at_41) ?_
    refine XS.lcmp X0.here hx rfl (hb hby at_42) rfl ?_
    show Steps p.tables e below (s₁.setTop (mkF m 43 (lA17_ p0 q1 q2 q3 q4 q5 hi aa (q5 &&& (9223372036854775807 : Int64))) [(.int (lcmpW (q5 &&& (9223372036854775807 : Int64)) (0 : Int64)))])) _
    refine (fun t (k : Steps p.tables e below (s₁.setTop (mkF m 49 (lA17_ p0 q1 q2 q3 q4 q5 hi aa (if (q5 &&& (9223372036854775807 : Int64)) = (0 : Int64) then (1 : Int64) else (q5 &&& (9223372036854775807 : Int64)))) [])) t) => (?_ : Steps p.tables e below _ t)) _ ?_
    · by_cases hc3 : (q5 &&& (9223372036854775807 : Int64)) = (0 : Int64)
      · simp only [if_pos hc3] at k
        refine XS.ifNo X0.here hx rfl (hb hby at_43) rfl ((if0 _ _).trans (teq ((lw_eq _ _).mpr hc3)).2) ?_
        show Steps p.tables e below (s₁.setTop (mkF m 46 (lA17_ p0 q1 q2 q3 q4 q5 hi aa (q5 &&& (9223372036854775807 : Int64))) [])) _
        refine XS.lconst X0.here hx rfl (hb hby at_46) ?_
        refine XS.lstore X0.here hx rfl (hb hby at_47) rfl (l' := (lA17_ p0 q1 q2 q3 q4 q5 hi aa (1 : Int64))) rfl ?_
        show Steps p.tables e below (s₁.setTop (mkF m 49 (lA17_ p0 q1 q2 q3 q4 q5 hi aa (1 : Int64)) [])) _
        exact k
      · simp only [if_neg hc3] at k
        refine XS.ifYes X0.here hx rfl (pc0 := 43) (pc' := 49) rfl (hb hby at_43) rfl ((if0 _ _).trans (feq (fun q => hc3 ((lw_eq _ _).mp q))).2) dE_ dE_ ?_
        show Steps p.tables e below (s₁.setTop (mkF m 49 (lA17_ p0 q1 q2 q3 q4 q5 hi aa (q5 &&& (9223372036854775807 : Int64))) [])) _
        exact k
    show Steps p.tables e below (s₁.setTop (mkF m 49 (lA17_ p0 q1 q2 q3 q4 q5 hi aa (if (q5 &&& (9223372036854775807 : Int64)) = (0 : Int64) then (1 : Int64) else (q5 &&& (9223372036854775807 : Int64)))) [])) _
    exact k
  generalize hbb : (if (q5 &&& (9223372036854775807 : Int64)) = (0 : Int64) then (1 : Int64) else (q5 &&& (9223372036854775807 : Int64))) = bb
  show own_Go p e below _ (s₁.setTop (mkF m 49 (lA17_ p0 q1 q2 q3 q4 q5 hi aa bb) []))
  obtain ⟨T4, h4, X4, e4, E4, A4, D4, -, st4⟩ := newO X0 hx hZ hown (hW hw 1 rfl) (hW hw 2 rfl) (hW hw 3 rfl) e0 (g := (mkF m 49 (lA17_ p0 q1 q2 q3 q4 q5 hi aa bb) [])) rfl (hb hby at_49) dE_ dE_
  obtain ⟨b4, g4⟩ : ∃ z, z = h0.size := ⟨_, rfl⟩
  rw [← g4] at A4 D4 st4
  have g_b4 : n0 ≤ b4 := Nat.le_trans Z0 (Nat.le_of_eq g4.symm)
  replace OZ := OZ.ext E4
  replace Z0 := Nat.le_trans Z0 E4.1
  have E_b4 := A4
  have F_prices_b4 : Fld Z h4 b4 c0_ "prices" "[J" .null := D4 (Or.inl (hW hw 12 rfl)) (ty := (.array .long)) dE_
  have F_sizes_b4 : Fld Z h4 b4 c0_ "sizes" "[J" .null := D4 (Or.inl (hW hw 14 rfl)) (ty := (.array .long)) dE_
  have F_left_b4 : Fld Z h4 b4 c0_ "left" "[I" .null := D4 (Or.inl (hW hw 17 rfl)) (ty := (.array .int)) dE_
  have F_right_b4 : Fld Z h4 b4 c0_ "right" "[I" .null := D4 (Or.inl (hW hw 19 rfl)) (ty := (.array .int)) dE_
  have F_heights_b4 : Fld Z h4 b4 c0_ "heights" "[B" .null := D4 (Or.inl (hW hw 22 rfl)) (ty := (.array .byte)) dE_
  have F_root_b4 : Fld Z h4 b4 c0_ "root" "I" oZ := D4 (Or.inl (hW hw 24 rfl)) (ty := .int) dE_
  have F_best_b4 : Fld Z h4 b4 c0_ "best" "I" oZ := D4 (Or.inl (hW hw 26 rfl)) (ty := .int) dE_
  have F_unused_b4 : Fld Z h4 b4 c0_ "unused" "I" oZ := D4 (Or.inl (hW hw 28 rfl)) (ty := .int) dE_
  have F_free_b4 : Fld Z h4 b4 c0_ "free" "I" oZ := D4 (Or.inl (hW hw 30 rfl)) (ty := .int) dE_
  have F_highestFirst_b4 : Fld Z h4 b4 c0_ "highestFirst" "Z" oZ := D4 (Or.inr (hW hw 32 rfl)) (ty := .boolean) dE_
  have F_count_b4 : Fld Z h4 b4 c0_ "count" "I" oZ := D4 (Or.inl (hW hw 47 rfl)) (ty := .int) dE_
  refine own_by st4 ?_
  show own_Go p e below _ (T4.setTop (mkF m 52 (lA17_ p0 q1 q2 q3 q4 q5 hi aa bb) [(.ref b4)]))
  refine own_by (B := T4.setTop (mkF m 55 (lA17_ p0 q1 q2 q3 q4 q5 hi aa bb) [(.int hi), (.ref b4), (.ref b4)])) (fun t k => ?_) ?_
  · refine XS.dup X4.here hx rfl (hb hby at_52) rfl rfl ?_
    refine XS.iload X4.here hx rfl (hb hby at_53) rfl ?_
    exact k
  refine own_cc (own_callI X4 hx hZ (y := y31_) rfl hown (hW hw 4 rfl) (hW hw 5 rfl) (hW hw 3 rfl) (hW hw 6 rfl) dE_ (rm1_57 l Z a0 hw [] b4 hi (0 : Int32) (0 : Int32) (0 : Int32) (0 : Int32) (0 : Int32) (0 : Int32) h4 n0 Z0 g_b4 E_b4 F_prices_b4 F_sizes_b4 F_left_b4 F_right_b4 F_heights_b4 F_root_b4 F_best_b4 F_unused_b4 F_free_b4 F_highestFirst_b4 F_count_b4) e4 1 dE_ dE_ dE_ dE_ rfl (by rw [hml]; rfl) b4 [(.int hi)] [(.ref b4)] rfl (lenOf pd_0 rfl) rfl (by show 2 * 0 + _ ≤ _; exact Nat.le_of_eq rfl) (hb hby at_55)) fun T6 L6 v6 X6 hQ6 => ?_
  obtain ⟨b3_6, b5_6, b7_6, b9_6, b11_6, k3_6, k5_6, k7_6, k9_6, k11_6, rfl, N6, K6, E_b4', F_prices_b4', F_sizes_b4', F_left_b4', F_right_b4', F_heights_b4', F_root_b4', F_best_b4', F_unused_b4', F_free_b4', F_highestFirst_b4', F_count_b4', V_b3_6', V_b5_6', V_b7_6', V_b9_6', V_b11_6', sz_b3_6', sz_b5_6', sz_b7_6', sz_b9_6', sz_b11_6', ne_b3_6_b5_6', ne_b3_6_b7_6', ne_b3_6_b9_6', ne_b3_6_b11_6', ne_b5_6_b7_6', ne_b5_6_b9_6', ne_b5_6_b11_6', ne_b7_6_b9_6', ne_b7_6_b11_6', ne_b9_6_b11_6'⟩ := hQ6
  replace N0 := Fr.app N0 N6
  have g_b3_6 : n0 ≤ b3_6 := Nat.le_trans Z0 sz_b3_6'
  have ne_b4_b3_6 : b4 ≠ b3_6 := Nat.ne_of_lt (Nat.lt_of_lt_of_le E_b4.lt sz_b3_6')
  have g_b5_6 : n0 ≤ b5_6 := Nat.le_trans Z0 sz_b5_6'
  have ne_b4_b5_6 : b4 ≠ b5_6 := Nat.ne_of_lt (Nat.lt_of_lt_of_le E_b4.lt sz_b5_6')
  have g_b7_6 : n0 ≤ b7_6 := Nat.le_trans Z0 sz_b7_6'
  have ne_b4_b7_6 : b4 ≠ b7_6 := Nat.ne_of_lt (Nat.lt_of_lt_of_le E_b4.lt sz_b7_6')
  have g_b9_6 : n0 ≤ b9_6 := Nat.le_trans Z0 sz_b9_6'
  have ne_b4_b9_6 : b4 ≠ b9_6 := Nat.ne_of_lt (Nat.lt_of_lt_of_le E_b4.lt sz_b9_6')
  have g_b11_6 : n0 ≤ b11_6 := Nat.le_trans Z0 sz_b11_6'
  have ne_b4_b11_6 : b4 ≠ b11_6 := Nat.ne_of_lt (Nat.lt_of_lt_of_le E_b4.lt sz_b11_6')
  replace E_b4 := E_b4.keep K6
  replace OZ := OZ.keep K6 (allS g_b4 all0)
  replace Z0 := Nat.le_trans Z0 K6.1
  replace E_b4 := E_b4'
  have F_prices_b4 := F_prices_b4'
  have F_sizes_b4 := F_sizes_b4'
  have F_left_b4 := F_left_b4'
  have F_right_b4 := F_right_b4'
  have F_heights_b4 := F_heights_b4'
  have F_root_b4 := F_root_b4'
  have F_best_b4 := F_best_b4'
  have F_unused_b4 := F_unused_b4'
  have F_free_b4 := F_free_b4'
  have F_highestFirst_b4 := F_highestFirst_b4'
  have F_count_b4 := F_count_b4'
  have V_b3_6 := V_b3_6'
  have V_b5_6 := V_b5_6'
  have V_b7_6 := V_b7_6'
  have V_b9_6 := V_b9_6'
  have V_b11_6 := V_b11_6'
  have ne_b3_6_b5_6 := ne_b3_6_b5_6'
  have ne_b3_6_b7_6 := ne_b3_6_b7_6'
  have ne_b3_6_b9_6 := ne_b3_6_b9_6'
  have ne_b3_6_b11_6 := ne_b3_6_b11_6'
  have ne_b5_6_b7_6 := ne_b5_6_b7_6'
  have ne_b5_6_b9_6 := ne_b5_6_b9_6'
  have ne_b5_6_b11_6 := ne_b5_6_b11_6'
  have ne_b7_6_b9_6 := ne_b7_6_b9_6'
  have ne_b7_6_b11_6 := ne_b7_6_b11_6'
  have ne_b9_6_b11_6 := ne_b9_6_b11_6'
  show own_Go p e below _ (T6.setTop (mkF m 58 (lA17_ p0 q1 q2 q3 q4 q5 hi aa bb) [(.ref b4)]))
  refine own_by (B := T6.setTop (mkF m 60 (lA5_ p0 q1 q2 q3 q4 q5 hi aa bb b4) [])) (fun t k => ?_) ?_
  · refine XS.astore X6.here hx rfl (hb hby at_58) rfl rfl (l' := (lA5_ p0 q1 q2 q3 q4 q5 hi aa bb b4)) rfl ?_
    show Steps p.tables e below (T6.setTop (mkF m 60 (lA5_ p0 q1 q2 q3 q4 q5 hi aa bb b4) [])) _
    exact k
  replace V_b3_6 : Arv Z T6.heap b3_6 k3_6 .long (8 : Int32) [oY, oY, oY] oY := V_b3_6.pad (pad_rep [] oY 3)
  replace V_b5_6 : Arv Z T6.heap b5_6 k5_6 .long (8 : Int32) [oY, oY, oY] oY := V_b5_6.pad (pad_rep [] oY 3)
  replace V_b7_6 : Arv Z T6.heap b7_6 k7_6 .int (8 : Int32) [oZ, oZ, oZ] oZ := V_b7_6.pad (pad_rep [] oZ 3)
  replace V_b9_6 : Arv Z T6.heap b9_6 k9_6 .int (8 : Int32) [oZ, oZ, oZ] oZ := V_b9_6.pad (pad_rep [] oZ 3)
  replace V_b11_6 : Arv Z T6.heap b11_6 k11_6 .byte (8 : Int32) [oZ, oZ, oZ] oZ := V_b11_6.pad (pad_rep [] oZ 3)
  show own_Go p e below _ (T6.setTop (mkF m 60 (lA5_ p0 q1 q2 q3 q4 q5 hi aa bb b4) []))
  refine own_by (B := T6.setTop (mkF m 65 (lA5_ p0 q1 q2 q3 q4 q5 hi aa bb b4) [(.long aa), (.long q1), (.ref b4)])) (fun t k => ?_) ?_
  · refine XS.aload X6.here hx rfl (hb hby at_60) rfl rfl ?_
    refine XS.lloadN X6.here hx rfl (hb hby at_62) rfl ?_
    refine XS.lload X6.here hx rfl (hb hby at_63) rfl ?_
    exact k
  refine own_cc (own_callV X6 hx hZ (y := y15_) (z := y15_) hown (hW hw 33 rfl) (hW hw 34 rfl) (notFace_of_selects (args := #[]) (mvT hZ (hW hw 36 rfl))) (hW hw 36 rfl) (hW hw 35 rfl) (hW hw 3 rfl) (hW hw 37 rfl) dE_ (rm3_11 l Z a0 hw [] b4 q1 aa b3_6 b5_6 b7_6 b9_6 b11_6 (0 : Int32) (0 : Int32) (0 : Int32) (0 : Int32) (nar .boolean hi) k3_6 (0 : Int64) (0 : Int64) (0 : Int64) k5_6 (0 : Int64) (0 : Int64) (0 : Int64) k7_6 (0 : Int32) (0 : Int32) (0 : Int32) k9_6 (0 : Int32) (0 : Int32) (0 : Int32) k11_6 (0 : Int32) (0 : Int32) (0 : Int32) T6.heap n0 Z0 E_b4 F_prices_b4 F_sizes_b4 F_left_b4 F_right_b4 F_heights_b4 F_root_b4 F_best_b4 F_unused_b4 F_free_b4 F_count_b4 F_highestFirst_b4 g_b4 V_b3_6 g_b3_6 V_b5_6 g_b5_6 V_b7_6 g_b7_6 V_b9_6 g_b9_6 V_b11_6 g_b11_6 (by rw [← haa]; exact own_nz _) (by decide : (0 : Int32) = (0 : Int32)) (by decide : (0 : Int32) = (0 : Int32)) (Ne.symm ne_b3_6_b5_6) (Ne.symm ne_b3_6_b7_6) (Ne.symm ne_b3_6_b9_6) (Ne.symm ne_b3_6_b11_6) (Ne.symm ne_b5_6_b7_6) (Ne.symm ne_b5_6_b9_6) (Ne.symm ne_b5_6_b11_6) (Ne.symm ne_b7_6_b9_6) (Ne.symm ne_b7_6_b11_6) (Ne.symm ne_b9_6_b11_6)) (rfl : T6.heap = _) 0 dE_ dE_ dE_ dE_ rfl (by rw [hml]; rfl) b4 E_b4 [(.long q1), (.long aa)] [] rfl (lenOf pd_2 rfl) rfl (by show 2 * 0 + _ ≤ _; exact Nat.le_of_eq rfl) (hb hby at_65)) fun T8 L8 v8 X8 hQ8 => ?_
  obtain ⟨rfl, N8, K8, E_b4', F_prices_b4', F_sizes_b4', F_left_b4', F_right_b4', F_heights_b4', F_root_b4', F_best_b4', F_unused_b4', F_free_b4', F_count_b4', F_highestFirst_b4', V_b3_6', V_b5_6', V_b7_6', V_b9_6', V_b11_6'⟩ := hQ8
  replace N0 := Fr.app N0 N8
  replace E_b4 := E_b4.keep K8
  replace OZ := OZ.keep K8 (allS g_b4 (allS g_b3_6 (allS g_b5_6 (allS g_b7_6 (allS g_b9_6 (allS g_b11_6 all0))))))
  replace Z0 := Nat.le_trans Z0 K8.1
  replace E_b4 := E_b4'
  have F_prices_b4 := F_prices_b4'
  have F_sizes_b4 := F_sizes_b4'
  have F_left_b4 := F_left_b4'
  have F_right_b4 := F_right_b4'
  have F_heights_b4 := F_heights_b4'
  have F_root_b4 := F_root_b4'
  have F_best_b4 := F_best_b4'
  have F_unused_b4 := F_unused_b4'
  have F_free_b4 := F_free_b4'
  have F_count_b4 : Fld Z T8.heap b4 c0_ "count" "I" (.int (1 : Int32)) := F_count_b4'
  have F_highestFirst_b4 := F_highestFirst_b4'
  have V_b3_6 := V_b3_6'
  have V_b5_6 := V_b5_6'
  have V_b7_6 := V_b7_6'
  have V_b9_6 := V_b9_6'
  have V_b11_6 := V_b11_6'
  show own_Go p e below _ (T8.setTop (mkF m 68 (lA5_ p0 q1 q2 q3 q4 q5 hi aa bb b4) []))
  refine own_by (B := T8.setTop (mkF m 73 (lA5_ p0 q1 q2 q3 q4 q5 hi aa bb b4) [(.long bb), (.long q2), (.ref b4)])) (fun t k => ?_) ?_
  · refine XS.aload X8.here hx rfl (hb hby at_68) rfl rfl ?_
    refine XS.lloadN X8.here hx rfl (hb hby at_70) rfl ?_
    refine XS.lload X8.here hx rfl (hb hby at_71) rfl ?_
    exact k
  by_cases hc11 : (fcp q2 q1 (nar .boolean hi)) = (0 : Int32)
  · skip
    show own_Go p e below _ (T8.setTop (mkF m 73 (lA5_ p0 q1 q2 q3 q4 q5 hi aa bb b4) [(.long bb), (.long q2), (.ref b4)]))
    refine own_cc (own_callV X8 hx hZ (y := y15_) (z := y15_) hown (hW hw 33 rfl) (hW hw 34 rfl) (notFace_of_selects (args := #[]) (mvT hZ (hW hw 36 rfl))) (hW hw 36 rfl) (hW hw 35 rfl) (hW hw 3 rfl) (hW hw 37 rfl) dE_ (rm3_13 l Z a0 hw [] b4 q2 bb b3_6 b5_6 b7_6 b9_6 b11_6 (1 : Int32) (2 : Int32) (0 : Int32) (1 : Int32) (nar .boolean hi) k3_6 (0 : Int64) q1 (0 : Int64) k5_6 (0 : Int64) aa (0 : Int64) k7_6 (0 : Int32) (0 : Int32) (0 : Int32) T8.heap n0 Z0 E_b4 g_b4 F_prices_b4 F_sizes_b4 F_left_b4 F_right_b4 F_heights_b4 F_root_b4 F_best_b4 F_unused_b4 F_free_b4 F_count_b4 F_highestFirst_b4 V_b3_6 g_b5_6 V_b5_6 V_b7_6 (by rw [← hbb]; exact own_nz _) (by decide : (0 : Int32) = (0 : Int32)) (by decide : ¬ ((2 : Int32) = (8 : Int32))) hc11 ne_b3_6_b5_6 (Ne.symm ne_b5_6_b7_6) (by decide : (0 : Int32) = (0 : Int32))) (rfl : T8.heap = _) 0 dE_ dE_ dE_ dE_ rfl (by rw [hml]; rfl) b4 E_b4 [(.long q2), (.long bb)] [] rfl (lenOf pd_2 rfl) rfl (by show 2 * 0 + _ ≤ _; exact Nat.le_of_eq rfl) (hb hby at_73)) fun T13 L13 v13 X13 hQ13 => ?_
    obtain ⟨rfl, N13, K13, V_b5_6', E_b4', F_prices_b4', F_sizes_b4', F_left_b4', F_right_b4', F_heights_b4', F_root_b4', F_best_b4', F_unused_b4', F_free_b4', F_count_b4', F_highestFirst_b4'⟩ := hQ13
    replace N0 := Fr.app N0 N13
    replace E_b4 := E_b4.keep K13
    replace V_b3_6 := V_b3_6.keep K13 (ninS ne_b3_6_b5_6 (ninS (Ne.symm ne_b4_b3_6) nin0))
    replace V_b7_6 := V_b7_6.keep K13 (ninS (Ne.symm ne_b5_6_b7_6) (ninS (Ne.symm ne_b4_b7_6) nin0))
    replace V_b9_6 := V_b9_6.keep K13 (ninS (Ne.symm ne_b5_6_b9_6) (ninS (Ne.symm ne_b4_b9_6) nin0))
    replace V_b11_6 := V_b11_6.keep K13 (ninS (Ne.symm ne_b5_6_b11_6) (ninS (Ne.symm ne_b4_b11_6) nin0))
    replace OZ := OZ.keep K13 (allS g_b5_6 (allS g_b4 all0))
    replace Z0 := Nat.le_trans Z0 K13.1
    have V_b5_6 := V_b5_6'
    replace E_b4 := E_b4'
    have F_prices_b4 := F_prices_b4'
    have F_sizes_b4 := F_sizes_b4'
    have F_left_b4 := F_left_b4'
    have F_right_b4 := F_right_b4'
    have F_heights_b4 := F_heights_b4'
    have F_root_b4 := F_root_b4'
    have F_best_b4 := F_best_b4'
    have F_unused_b4 := F_unused_b4'
    have F_free_b4 := F_free_b4'
    have F_count_b4 := F_count_b4'
    have F_highestFirst_b4 := F_highestFirst_b4'
    show own_Go p e below _ (T13.setTop (mkF m 76 (lA5_ p0 q1 q2 q3 q4 q5 hi aa bb b4) []))
    refine own_by (B := T13.setTop (mkF m 79 (lA5_ p0 q1 q2 q3 q4 q5 hi aa bb b4) [(.int (p0 &&& (2 : Int32)))])) (fun t k => ?_) ?_
    · refine XS.iloadN X13.here hx rfl (hb hby at_76) rfl ?_
      refine XS.iconst X13.here hx rfl (hb hby at_77) ?_
      refine XS.iand X13.here hx rfl (hb hby at_78) rfl ?_
      show Steps p.tables e below (T13.setTop (mkF m 79 (lA5_ p0 q1 q2 q3 q4 q5 hi aa bb b4) [(.int (p0 &&& (2 : Int32)))])) _
      exact k
    by_cases hc15 : (p0 &&& (2 : Int32)) = (0 : Int32)
    · skip
      refine own_by (fun t k => XS.ifYes X13.here hx rfl (pc0 := 79) (pc' := 89) rfl (hb hby at_79) rfl ((if0 _ _).trans (teq hc15).1) dE_ dE_ k) ?_
      show own_Go p e below _ (T13.setTop (mkF m 89 (lA5_ p0 q1 q2 q3 q4 q5 hi aa bb b4) []))
      refine own_by (B := T13.setTop (mkF m 91 (lA5_ p0 q1 q2 q3 q4 q5 hi aa bb b4) [(.ref b4)])) (fun t k => ?_) ?_
      · refine XS.aload X13.here hx rfl (hb hby at_89) rfl rfl ?_
        exact k
      refine own_cc (own_callV X13 hx hZ (y := y32_) (z := y32_) hown (hW hw 68 rfl) (hW hw 69 rfl) (notFace_of_selects (args := #[]) (mvT hZ (hW hw 71 rfl))) (hW hw 71 rfl) (hW hw 70 rfl) (hW hw 3 rfl) (hW hw 72 rfl) dE_ (rm11_58 l Z a0 hw [] b4 b3_6 b5_6 b7_6 b9_6 b11_6 (1 : Int32) (1 : Int32) (2 : Int32) (0 : Int32) (1 : Int32) (nar .boolean hi) T13.heap n0 Z0 g_b4 E_b4 F_prices_b4 F_sizes_b4 F_left_b4 F_right_b4 F_heights_b4 F_root_b4 F_best_b4 F_unused_b4 F_free_b4 F_count_b4 F_highestFirst_b4) (rfl : T13.heap = _) 0 dE_ dE_ dE_ dE_ rfl (by rw [hml]; rfl) b4 E_b4 [] [] rfl (lenOf pd_1 rfl) rfl (by show 2 * 0 + _ ≤ _; exact Nat.le_of_eq rfl) (hb hby at_91)) fun T17 L17 v17 X17 hQ17 => ?_
      obtain ⟨rfl, N17, K17, E_b4', F_prices_b4', F_sizes_b4', F_left_b4', F_right_b4', F_heights_b4', F_root_b4', F_best_b4', F_unused_b4', F_free_b4', F_count_b4', F_highestFirst_b4'⟩ := hQ17
      replace N0 := Fr.app N0 N17
      replace E_b4 := E_b4.keep K17
      replace V_b3_6 := V_b3_6.keep K17 (ninS (Ne.symm ne_b4_b3_6) nin0)
      replace V_b7_6 := V_b7_6.keep K17 (ninS (Ne.symm ne_b4_b7_6) nin0)
      replace V_b9_6 := V_b9_6.keep K17 (ninS (Ne.symm ne_b4_b9_6) nin0)
      replace V_b11_6 := V_b11_6.keep K17 (ninS (Ne.symm ne_b4_b11_6) nin0)
      replace V_b5_6 := V_b5_6.keep K17 (ninS (Ne.symm ne_b4_b5_6) nin0)
      replace OZ := OZ.keep K17 (allS g_b4 all0)
      replace Z0 := Nat.le_trans Z0 K17.1
      replace E_b4 := E_b4'
      have F_prices_b4 := F_prices_b4'
      have F_sizes_b4 := F_sizes_b4'
      have F_left_b4 := F_left_b4'
      have F_right_b4 := F_right_b4'
      have F_heights_b4 := F_heights_b4'
      have F_root_b4 := F_root_b4'
      have F_best_b4 := F_best_b4'
      have F_unused_b4 := F_unused_b4'
      have F_free_b4 := F_free_b4'
      have F_count_b4 := F_count_b4'
      have F_highestFirst_b4 := F_highestFirst_b4'
      show own_Go p e below _ (T17.setTop (mkF m 94 (lA5_ p0 q1 q2 q3 q4 q5 hi aa bb b4) []))
      exact own_tail (h0 := h0) p0 q1 q2 q3 q4 q5 hi aa bb b4 em b3_6 b5_6 b7_6 b9_6 b11_6 k3_6 k5_6 k7_6 k9_6 k11_6 q1 (0 : Int64) bb (0 : Int64) (0 : Int32) (0 : Int32) (0 : Int32) (0 : Int32) (1 : Int32) (0 : Int32) (by rw [← hhi]; exact own_hi _) X17 hx hZ hw hby hml hown Bd.returns Bd.notSynchronized rfl N0 Z0 E_b4 F_prices_b4 F_sizes_b4 F_left_b4 F_right_b4 F_heights_b4 F_root_b4 F_best_b4 F_unused_b4 F_free_b4 F_count_b4 F_highestFirst_b4 V_b3_6 V_b5_6 V_b7_6 V_b9_6 V_b11_6 g_b4 g_b3_6 g_b5_6 g_b7_6 g_b9_6 g_b11_6 ne_b3_6_b5_6 ne_b3_6_b7_6 ne_b3_6_b9_6 ne_b3_6_b11_6 ne_b5_6_b7_6 ne_b5_6_b9_6 ne_b5_6_b11_6 ne_b7_6_b9_6 ne_b7_6_b11_6 ne_b9_6_b11_6 (by rw [← haa]; exact own_nz _) (by rw [← hbb]; exact own_nz _) OZ S_EMPTY_ELEMENTDATA
    · skip
      refine own_by (fun t k => XS.ifNo X13.here hx rfl (hb hby at_79) rfl ((if0 _ _).trans (feq hc15).1) k) ?_
      show own_Go p e below _ (T13.setTop (mkF m 82 (lA5_ p0 q1 q2 q3 q4 q5 hi aa bb b4) []))
      refine own_by (B := T13.setTop (mkF m 86 (lA5_ p0 q1 q2 q3 q4 q5 hi aa bb b4) [oY, (.long q1), (.ref b4)])) (fun t k => ?_) ?_
      · refine XS.aload X13.here hx rfl (hb hby at_82) rfl rfl ?_
        refine XS.lloadN X13.here hx rfl (hb hby at_84) rfl ?_
        refine XS.lconst X13.here hx rfl (hb hby at_85) ?_
        exact k
      refine own_cc (own_callV X13 hx hZ (y := y15_) (z := y15_) hown (hW hw 33 rfl) (hW hw 34 rfl) (notFace_of_selects (args := #[]) (mvT hZ (hW hw 36 rfl))) (hW hw 36 rfl) (hW hw 35 rfl) (hW hw 3 rfl) (hW hw 37 rfl) dE_ (rm3_61 l Z a0 hw [] b4 q1 (0 : Int64) b3_6 b5_6 b7_6 b9_6 b11_6 (1 : Int32) (2 : Int32) (0 : Int32) (1 : Int32) (nar .boolean hi) k3_6 (0 : Int64) (0 : Int64) k7_6 (0 : Int32) (0 : Int32) (0 : Int32) k9_6 (0 : Int32) (0 : Int32) T13.heap n0 Z0 g_b4 E_b4 F_prices_b4 F_sizes_b4 F_left_b4 F_right_b4 F_heights_b4 F_root_b4 F_best_b4 F_unused_b4 F_free_b4 F_count_b4 F_highestFirst_b4 V_b3_6 V_b7_6 g_b9_6 V_b9_6 (by decide : (0 : Int64) = (0 : Int64)) (own_cp_self q1 (nar .boolean hi)).1 (own_cp_self q1 (nar .boolean hi)).2 (by decide : (0 : Int32) = (0 : Int32)) ne_b3_6_b9_6 ne_b7_6_b9_6 (by decide : (0 : Int32) = (0 : Int32))) (rfl : T13.heap = _) 0 dE_ dE_ dE_ dE_ rfl (by rw [hml]; rfl) b4 E_b4 [(.long q1), oY] [] rfl (lenOf pd_2 rfl) rfl (by show 2 * 0 + _ ≤ _; exact Nat.le_of_eq rfl) (hb hby at_86)) fun T19 L19 v19 X19 hQ19 => ?_
      obtain ⟨rfl, N19, K19, V_b9_6', E_b4', F_prices_b4', F_sizes_b4', F_left_b4', F_right_b4', F_heights_b4', F_root_b4', F_best_b4', F_unused_b4', F_free_b4', F_count_b4', F_highestFirst_b4'⟩ := hQ19
      replace N0 := Fr.app N0 N19
      replace E_b4 := E_b4.keep K19
      replace V_b3_6 := V_b3_6.keep K19 (ninS ne_b3_6_b9_6 (ninS (Ne.symm ne_b4_b3_6) nin0))
      replace V_b7_6 := V_b7_6.keep K19 (ninS ne_b7_6_b9_6 (ninS (Ne.symm ne_b4_b7_6) nin0))
      replace V_b11_6 := V_b11_6.keep K19 (ninS (Ne.symm ne_b9_6_b11_6) (ninS (Ne.symm ne_b4_b11_6) nin0))
      replace V_b5_6 := V_b5_6.keep K19 (ninS ne_b5_6_b9_6 (ninS (Ne.symm ne_b4_b5_6) nin0))
      replace OZ := OZ.keep K19 (allS g_b9_6 (allS g_b4 all0))
      replace Z0 := Nat.le_trans Z0 K19.1
      have V_b9_6 := V_b9_6'
      replace E_b4 := E_b4'
      have F_prices_b4 := F_prices_b4'
      have F_sizes_b4 := F_sizes_b4'
      have F_left_b4 := F_left_b4'
      have F_right_b4 := F_right_b4'
      have F_heights_b4 := F_heights_b4'
      have F_root_b4 := F_root_b4'
      have F_best_b4 := F_best_b4'
      have F_unused_b4 := F_unused_b4'
      have F_free_b4 := F_free_b4'
      have F_count_b4 : Fld Z T19.heap b4 c0_ "count" "I" oZ := F_count_b4'
      have F_highestFirst_b4 := F_highestFirst_b4'
      show own_Go p e below _ (T19.setTop (mkF m 89 (lA5_ p0 q1 q2 q3 q4 q5 hi aa bb b4) []))
      refine own_by (B := T19.setTop (mkF m 91 (lA5_ p0 q1 q2 q3 q4 q5 hi aa bb b4) [(.ref b4)])) (fun t k => ?_) ?_
      · refine XS.aload X19.here hx rfl (hb hby at_89) rfl rfl ?_
        exact k
      refine own_cc (own_callV X19 hx hZ (y := y32_) (z := y32_) hown (hW hw 68 rfl) (hW hw 69 rfl) (notFace_of_selects (args := #[]) (mvT hZ (hW hw 71 rfl))) (hW hw 71 rfl) (hW hw 70 rfl) (hW hw 3 rfl) (hW hw 72 rfl) dE_ (rm11_58 l Z a0 hw [] b4 b3_6 b5_6 b7_6 b9_6 b11_6 (0 : Int32) (0 : Int32) (2 : Int32) (1 : Int32) (0 : Int32) (nar .boolean hi) T19.heap n0 Z0 g_b4 E_b4 F_prices_b4 F_sizes_b4 F_left_b4 F_right_b4 F_heights_b4 F_root_b4 F_best_b4 F_unused_b4 F_free_b4 F_count_b4 F_highestFirst_b4) (rfl : T19.heap = _) 0 dE_ dE_ dE_ dE_ rfl (by rw [hml]; rfl) b4 E_b4 [] [] rfl (lenOf pd_1 rfl) rfl (by show 2 * 0 + _ ≤ _; exact Nat.le_of_eq rfl) (hb hby at_91)) fun T21 L21 v21 X21 hQ21 => ?_
      obtain ⟨rfl, N21, K21, E_b4', F_prices_b4', F_sizes_b4', F_left_b4', F_right_b4', F_heights_b4', F_root_b4', F_best_b4', F_unused_b4', F_free_b4', F_count_b4', F_highestFirst_b4'⟩ := hQ21
      replace N0 := Fr.app N0 N21
      replace E_b4 := E_b4.keep K21
      replace V_b3_6 := V_b3_6.keep K21 (ninS (Ne.symm ne_b4_b3_6) nin0)
      replace V_b7_6 := V_b7_6.keep K21 (ninS (Ne.symm ne_b4_b7_6) nin0)
      replace V_b11_6 := V_b11_6.keep K21 (ninS (Ne.symm ne_b4_b11_6) nin0)
      replace V_b5_6 := V_b5_6.keep K21 (ninS (Ne.symm ne_b4_b5_6) nin0)
      replace V_b9_6 := V_b9_6.keep K21 (ninS (Ne.symm ne_b4_b9_6) nin0)
      replace OZ := OZ.keep K21 (allS g_b4 all0)
      replace Z0 := Nat.le_trans Z0 K21.1
      replace E_b4 := E_b4'
      have F_prices_b4 := F_prices_b4'
      have F_sizes_b4 := F_sizes_b4'
      have F_left_b4 := F_left_b4'
      have F_right_b4 := F_right_b4'
      have F_heights_b4 := F_heights_b4'
      have F_root_b4 := F_root_b4'
      have F_best_b4 := F_best_b4'
      have F_unused_b4 := F_unused_b4'
      have F_free_b4 := F_free_b4'
      have F_count_b4 := F_count_b4'
      have F_highestFirst_b4 := F_highestFirst_b4'
      show own_Go p e below _ (T21.setTop (mkF m 94 (lA5_ p0 q1 q2 q3 q4 q5 hi aa bb b4) []))
      exact own_tail (h0 := h0) p0 q1 q2 q3 q4 q5 hi aa bb b4 em b3_6 b5_6 b7_6 b9_6 b11_6 k3_6 k5_6 k7_6 k9_6 k11_6 q1 (0 : Int64) bb (0 : Int64) (0 : Int32) (0 : Int32) (0 : Int32) (0 : Int32) (1 : Int32) (0 : Int32) (by rw [← hhi]; exact own_hi _) X21 hx hZ hw hby hml hown Bd.returns Bd.notSynchronized rfl N0 Z0 E_b4 F_prices_b4 F_sizes_b4 F_left_b4 F_right_b4 F_heights_b4 F_root_b4 F_best_b4 F_unused_b4 F_free_b4 F_count_b4 F_highestFirst_b4 V_b3_6 V_b5_6 V_b7_6 V_b9_6 V_b11_6 g_b4 g_b3_6 g_b5_6 g_b7_6 g_b9_6 g_b11_6 ne_b3_6_b5_6 ne_b3_6_b7_6 ne_b3_6_b9_6 ne_b3_6_b11_6 ne_b5_6_b7_6 ne_b5_6_b9_6 ne_b5_6_b11_6 ne_b7_6_b9_6 ne_b7_6_b11_6 ne_b9_6_b11_6 (by rw [← haa]; exact own_nz _) (by rw [← hbb]; exact own_nz _) OZ S_EMPTY_ELEMENTDATA
  · skip
    show own_Go p e below _ (T8.setTop (mkF m 73 (lA5_ p0 q1 q2 q3 q4 q5 hi aa bb b4) [(.long bb), (.long q2), (.ref b4)]))
    by_cases hc24 : (fcp q2 q1 (nar .boolean hi)) < (0 : Int32)
    · skip
      show own_Go p e below _ (T8.setTop (mkF m 73 (lA5_ p0 q1 q2 q3 q4 q5 hi aa bb b4) [(.long bb), (.long q2), (.ref b4)]))
      refine own_cc (own_callV X8 hx hZ (y := y15_) (z := y15_) hown (hW hw 33 rfl) (hW hw 34 rfl) (notFace_of_selects (args := #[]) (mvT hZ (hW hw 36 rfl))) (hW hw 36 rfl) (hW hw 35 rfl) (hW hw 3 rfl) (hW hw 37 rfl) dE_ (rm3_34 l Z a0 hw [] b4 q2 bb b3_6 b5_6 b7_6 b9_6 b11_6 (1 : Int32) (0 : Int32) (1 : Int32) (nar .boolean hi) k3_6 (0 : Int64) q1 (0 : Int64) k5_6 (0 : Int64) aa (0 : Int64) k7_6 (0 : Int32) (0 : Int32) (0 : Int32) k9_6 (0 : Int32) (0 : Int32) k11_6 (0 : Int32) (1 : Int32) (0 : Int32) T8.heap n0 Z0 E_b4 g_b4 F_prices_b4 F_sizes_b4 F_left_b4 F_right_b4 F_heights_b4 F_root_b4 F_best_b4 F_unused_b4 F_free_b4 F_count_b4 F_highestFirst_b4 g_b3_6 V_b3_6 g_b5_6 V_b5_6 g_b7_6 V_b7_6 g_b9_6 V_b9_6 g_b11_6 V_b11_6 (by rw [← hbb]; exact own_nz _) (by decide : (0 : Int32) = (0 : Int32)) hc11 hc24 (by decide : (0 : Int32) = (0 : Int32)) (Ne.symm ne_b3_6_b5_6) (Ne.symm ne_b3_6_b7_6) (Ne.symm ne_b3_6_b9_6) (Ne.symm ne_b3_6_b11_6) (Ne.symm ne_b5_6_b7_6) (Ne.symm ne_b5_6_b9_6) (Ne.symm ne_b5_6_b11_6) (Ne.symm ne_b7_6_b9_6) (Ne.symm ne_b7_6_b11_6) (Ne.symm ne_b9_6_b11_6) (by decide : ¬ ((1 : Int32) < (1 : Int32))) (by decide : ¬ ((1 : Int32) < (-1 : Int32)))) (rfl : T8.heap = _) 0 dE_ dE_ dE_ dE_ rfl (by rw [hml]; rfl) b4 E_b4 [(.long q2), (.long bb)] [] rfl (lenOf pd_2 rfl) rfl (by show 2 * 0 + _ ≤ _; exact Nat.le_of_eq rfl) (hb hby at_73)) fun T26 L26 v26 X26 hQ26 => ?_
      obtain ⟨rfl, N26, K26, V_b11_6', V_b9_6', V_b7_6', V_b5_6', V_b3_6', E_b4', F_prices_b4', F_sizes_b4', F_left_b4', F_right_b4', F_heights_b4', F_root_b4', F_best_b4', F_unused_b4', F_free_b4', F_count_b4', F_highestFirst_b4'⟩ := hQ26
      replace N0 := Fr.app N0 N26
      replace E_b4 := E_b4.keep K26
      replace OZ := OZ.keep K26 (allS g_b11_6 (allS g_b9_6 (allS g_b7_6 (allS g_b5_6 (allS g_b3_6 (allS g_b4 all0))))))
      replace Z0 := Nat.le_trans Z0 K26.1
      have V_b11_6 : Arv Z T26.heap b11_6 k11_6 .byte (8 : Int32) [oZ, (.int (2 : Int32)), (.int (1 : Int32))] oZ := V_b11_6'
      have V_b9_6 := V_b9_6'
      have V_b7_6 := V_b7_6'
      have V_b5_6 := V_b5_6'
      have V_b3_6 := V_b3_6'
      replace E_b4 := E_b4'
      have F_prices_b4 := F_prices_b4'
      have F_sizes_b4 := F_sizes_b4'
      have F_left_b4 := F_left_b4'
      have F_right_b4 := F_right_b4'
      have F_heights_b4 := F_heights_b4'
      have F_root_b4 := F_root_b4'
      have F_best_b4 := F_best_b4'
      have F_unused_b4 := F_unused_b4'
      have F_free_b4 := F_free_b4'
      have F_count_b4 : Fld Z T26.heap b4 c0_ "count" "I" (.int (2 : Int32)) := F_count_b4'
      have F_highestFirst_b4 := F_highestFirst_b4'
      show own_Go p e below _ (T26.setTop (mkF m 76 (lA5_ p0 q1 q2 q3 q4 q5 hi aa bb b4) []))
      refine own_by (B := T26.setTop (mkF m 79 (lA5_ p0 q1 q2 q3 q4 q5 hi aa bb b4) [(.int (p0 &&& (2 : Int32)))])) (fun t k => ?_) ?_
      · refine XS.iloadN X26.here hx rfl (hb hby at_76) rfl ?_
        refine XS.iconst X26.here hx rfl (hb hby at_77) ?_
        refine XS.iand X26.here hx rfl (hb hby at_78) rfl ?_
        show Steps p.tables e below (T26.setTop (mkF m 79 (lA5_ p0 q1 q2 q3 q4 q5 hi aa bb b4) [(.int (p0 &&& (2 : Int32)))])) _
        exact k
      by_cases hc28 : (p0 &&& (2 : Int32)) = (0 : Int32)
      · skip
        refine own_by (fun t k => XS.ifYes X26.here hx rfl (pc0 := 79) (pc' := 89) rfl (hb hby at_79) rfl ((if0 _ _).trans (teq hc28).1) dE_ dE_ k) ?_
        show own_Go p e below _ (T26.setTop (mkF m 89 (lA5_ p0 q1 q2 q3 q4 q5 hi aa bb b4) []))
        refine own_by (B := T26.setTop (mkF m 91 (lA5_ p0 q1 q2 q3 q4 q5 hi aa bb b4) [(.ref b4)])) (fun t k => ?_) ?_
        · refine XS.aload X26.here hx rfl (hb hby at_89) rfl rfl ?_
          exact k
        refine own_cc (own_callV X26 hx hZ (y := y32_) (z := y32_) hown (hW hw 68 rfl) (hW hw 69 rfl) (notFace_of_selects (args := #[]) (mvT hZ (hW hw 71 rfl))) (hW hw 71 rfl) (hW hw 70 rfl) (hW hw 3 rfl) (hW hw 72 rfl) dE_ (rm11_58 l Z a0 hw [] b4 b3_6 b5_6 b7_6 b9_6 b11_6 (1 : Int32) (2 : Int32) (3 : Int32) (0 : Int32) (2 : Int32) (nar .boolean hi) T26.heap n0 Z0 g_b4 E_b4 F_prices_b4 F_sizes_b4 F_left_b4 F_right_b4 F_heights_b4 F_root_b4 F_best_b4 F_unused_b4 F_free_b4 F_count_b4 F_highestFirst_b4) (rfl : T26.heap = _) 0 dE_ dE_ dE_ dE_ rfl (by rw [hml]; rfl) b4 E_b4 [] [] rfl (lenOf pd_1 rfl) rfl (by show 2 * 0 + _ ≤ _; exact Nat.le_of_eq rfl) (hb hby at_91)) fun T30 L30 v30 X30 hQ30 => ?_
        obtain ⟨rfl, N30, K30, E_b4', F_prices_b4', F_sizes_b4', F_left_b4', F_right_b4', F_heights_b4', F_root_b4', F_best_b4', F_unused_b4', F_free_b4', F_count_b4', F_highestFirst_b4'⟩ := hQ30
        replace N0 := Fr.app N0 N30
        replace E_b4 := E_b4.keep K30
        replace V_b11_6 := V_b11_6.keep K30 (ninS (Ne.symm ne_b4_b11_6) nin0)
        replace V_b9_6 := V_b9_6.keep K30 (ninS (Ne.symm ne_b4_b9_6) nin0)
        replace V_b7_6 := V_b7_6.keep K30 (ninS (Ne.symm ne_b4_b7_6) nin0)
        replace V_b5_6 := V_b5_6.keep K30 (ninS (Ne.symm ne_b4_b5_6) nin0)
        replace V_b3_6 := V_b3_6.keep K30 (ninS (Ne.symm ne_b4_b3_6) nin0)
        replace OZ := OZ.keep K30 (allS g_b4 all0)
        replace Z0 := Nat.le_trans Z0 K30.1
        replace E_b4 := E_b4'
        have F_prices_b4 := F_prices_b4'
        have F_sizes_b4 := F_sizes_b4'
        have F_left_b4 := F_left_b4'
        have F_right_b4 := F_right_b4'
        have F_heights_b4 := F_heights_b4'
        have F_root_b4 := F_root_b4'
        have F_best_b4 := F_best_b4'
        have F_unused_b4 := F_unused_b4'
        have F_free_b4 := F_free_b4'
        have F_count_b4 := F_count_b4'
        have F_highestFirst_b4 := F_highestFirst_b4'
        show own_Go p e below _ (T30.setTop (mkF m 94 (lA5_ p0 q1 q2 q3 q4 q5 hi aa bb b4) []))
        exact own_tail (h0 := h0) p0 q1 q2 q3 q4 q5 hi aa bb b4 em b3_6 b5_6 b7_6 b9_6 b11_6 k3_6 k5_6 k7_6 k9_6 k11_6 q1 q2 aa bb (2 : Int32) (0 : Int32) (0 : Int32) (0 : Int32) (2 : Int32) (1 : Int32) (by rw [← hhi]; exact own_hi _) X30 hx hZ hw hby hml hown Bd.returns Bd.notSynchronized rfl N0 Z0 E_b4 F_prices_b4 F_sizes_b4 F_left_b4 F_right_b4 F_heights_b4 F_root_b4 F_best_b4 F_unused_b4 F_free_b4 F_count_b4 F_highestFirst_b4 V_b3_6 V_b5_6 V_b7_6 V_b9_6 V_b11_6 g_b4 g_b3_6 g_b5_6 g_b7_6 g_b9_6 g_b11_6 ne_b3_6_b5_6 ne_b3_6_b7_6 ne_b3_6_b9_6 ne_b3_6_b11_6 ne_b5_6_b7_6 ne_b5_6_b9_6 ne_b5_6_b11_6 ne_b7_6_b9_6 ne_b7_6_b11_6 ne_b9_6_b11_6 (by rw [← haa]; exact own_nz _) (by rw [← hbb]; exact own_nz _) OZ S_EMPTY_ELEMENTDATA
      · skip
        refine own_by (fun t k => XS.ifNo X26.here hx rfl (hb hby at_79) rfl ((if0 _ _).trans (feq hc28).1) k) ?_
        show own_Go p e below _ (T26.setTop (mkF m 82 (lA5_ p0 q1 q2 q3 q4 q5 hi aa bb b4) []))
        refine own_by (B := T26.setTop (mkF m 86 (lA5_ p0 q1 q2 q3 q4 q5 hi aa bb b4) [oY, (.long q1), (.ref b4)])) (fun t k => ?_) ?_
        · refine XS.aload X26.here hx rfl (hb hby at_82) rfl rfl ?_
          refine XS.lloadN X26.here hx rfl (hb hby at_84) rfl ?_
          refine XS.lconst X26.here hx rfl (hb hby at_85) ?_
          exact k
        refine own_cc (own_callV X26 hx hZ (y := y15_) (z := y15_) hown (hW hw 33 rfl) (hW hw 34 rfl) (notFace_of_selects (args := #[]) (mvT hZ (hW hw 36 rfl))) (hW hw 36 rfl) (hW hw 35 rfl) (hW hw 3 rfl) (hW hw 37 rfl) dE_ (rm3_63 l Z a0 hw [] b4 q1 (0 : Int64) b3_6 b5_6 b7_6 b9_6 b11_6 (2 : Int32) (3 : Int32) (0 : Int32) (2 : Int32) (nar .boolean hi) k3_6 (0 : Int64) q2 k7_6 (0 : Int32) (0 : Int32) k9_6 (0 : Int32) (0 : Int32) (0 : Int32) T26.heap n0 Z0 g_b4 E_b4 F_prices_b4 F_sizes_b4 F_left_b4 F_right_b4 F_heights_b4 F_root_b4 F_best_b4 F_unused_b4 F_free_b4 F_count_b4 F_highestFirst_b4 V_b3_6 V_b7_6 g_b9_6 V_b9_6 (by decide : (0 : Int64) = (0 : Int64)) (own_cp_self q1 (nar .boolean hi)).1 (own_cp_self q1 (nar .boolean hi)).2 (by decide : (0 : Int32) = (0 : Int32)) ne_b3_6_b9_6 ne_b7_6_b9_6 (by decide : (0 : Int32) = (0 : Int32))) (rfl : T26.heap = _) 0 dE_ dE_ dE_ dE_ rfl (by rw [hml]; rfl) b4 E_b4 [(.long q1), oY] [] rfl (lenOf pd_2 rfl) rfl (by show 2 * 0 + _ ≤ _; exact Nat.le_of_eq rfl) (hb hby at_86)) fun T32 L32 v32 X32 hQ32 => ?_
        obtain ⟨rfl, N32, K32, V_b9_6', E_b4', F_prices_b4', F_sizes_b4', F_left_b4', F_right_b4', F_heights_b4', F_root_b4', F_best_b4', F_unused_b4', F_free_b4', F_count_b4', F_highestFirst_b4'⟩ := hQ32
        replace N0 := Fr.app N0 N32
        replace E_b4 := E_b4.keep K32
        replace V_b11_6 := V_b11_6.keep K32 (ninS (Ne.symm ne_b9_6_b11_6) (ninS (Ne.symm ne_b4_b11_6) nin0))
        replace V_b7_6 := V_b7_6.keep K32 (ninS ne_b7_6_b9_6 (ninS (Ne.symm ne_b4_b7_6) nin0))
        replace V_b5_6 := V_b5_6.keep K32 (ninS ne_b5_6_b9_6 (ninS (Ne.symm ne_b4_b5_6) nin0))
        replace V_b3_6 := V_b3_6.keep K32 (ninS ne_b3_6_b9_6 (ninS (Ne.symm ne_b4_b3_6) nin0))
        replace OZ := OZ.keep K32 (allS g_b9_6 (allS g_b4 all0))
        replace Z0 := Nat.le_trans Z0 K32.1
        have V_b9_6 := V_b9_6'
        replace E_b4 := E_b4'
        have F_prices_b4 := F_prices_b4'
        have F_sizes_b4 := F_sizes_b4'
        have F_left_b4 := F_left_b4'
        have F_right_b4 := F_right_b4'
        have F_heights_b4 := F_heights_b4'
        have F_root_b4 := F_root_b4'
        have F_best_b4 := F_best_b4'
        have F_unused_b4 := F_unused_b4'
        have F_free_b4 := F_free_b4'
        have F_count_b4 : Fld Z T32.heap b4 c0_ "count" "I" (.int (1 : Int32)) := F_count_b4'
        have F_highestFirst_b4 := F_highestFirst_b4'
        show own_Go p e below _ (T32.setTop (mkF m 89 (lA5_ p0 q1 q2 q3 q4 q5 hi aa bb b4) []))
        refine own_by (B := T32.setTop (mkF m 91 (lA5_ p0 q1 q2 q3 q4 q5 hi aa bb b4) [(.ref b4)])) (fun t k => ?_) ?_
        · refine XS.aload X32.here hx rfl (hb hby at_89) rfl rfl ?_
          exact k
        refine own_cc (own_callV X32 hx hZ (y := y32_) (z := y32_) hown (hW hw 68 rfl) (hW hw 69 rfl) (notFace_of_selects (args := #[]) (mvT hZ (hW hw 71 rfl))) (hW hw 71 rfl) (hW hw 70 rfl) (hW hw 3 rfl) (hW hw 72 rfl) dE_ (rm11_58 l Z a0 hw [] b4 b3_6 b5_6 b7_6 b9_6 b11_6 (2 : Int32) (2 : Int32) (3 : Int32) (1 : Int32) (1 : Int32) (nar .boolean hi) T32.heap n0 Z0 g_b4 E_b4 F_prices_b4 F_sizes_b4 F_left_b4 F_right_b4 F_heights_b4 F_root_b4 F_best_b4 F_unused_b4 F_free_b4 F_count_b4 F_highestFirst_b4) (rfl : T32.heap = _) 0 dE_ dE_ dE_ dE_ rfl (by rw [hml]; rfl) b4 E_b4 [] [] rfl (lenOf pd_1 rfl) rfl (by show 2 * 0 + _ ≤ _; exact Nat.le_of_eq rfl) (hb hby at_91)) fun T34 L34 v34 X34 hQ34 => ?_
        obtain ⟨rfl, N34, K34, E_b4', F_prices_b4', F_sizes_b4', F_left_b4', F_right_b4', F_heights_b4', F_root_b4', F_best_b4', F_unused_b4', F_free_b4', F_count_b4', F_highestFirst_b4'⟩ := hQ34
        replace N0 := Fr.app N0 N34
        replace E_b4 := E_b4.keep K34
        replace V_b11_6 := V_b11_6.keep K34 (ninS (Ne.symm ne_b4_b11_6) nin0)
        replace V_b7_6 := V_b7_6.keep K34 (ninS (Ne.symm ne_b4_b7_6) nin0)
        replace V_b5_6 := V_b5_6.keep K34 (ninS (Ne.symm ne_b4_b5_6) nin0)
        replace V_b3_6 := V_b3_6.keep K34 (ninS (Ne.symm ne_b4_b3_6) nin0)
        replace V_b9_6 := V_b9_6.keep K34 (ninS (Ne.symm ne_b4_b9_6) nin0)
        replace OZ := OZ.keep K34 (allS g_b4 all0)
        replace Z0 := Nat.le_trans Z0 K34.1
        replace E_b4 := E_b4'
        have F_prices_b4 := F_prices_b4'
        have F_sizes_b4 := F_sizes_b4'
        have F_left_b4 := F_left_b4'
        have F_right_b4 := F_right_b4'
        have F_heights_b4 := F_heights_b4'
        have F_root_b4 := F_root_b4'
        have F_best_b4 := F_best_b4'
        have F_unused_b4 := F_unused_b4'
        have F_free_b4 := F_free_b4'
        have F_count_b4 := F_count_b4'
        have F_highestFirst_b4 := F_highestFirst_b4'
        show own_Go p e below _ (T34.setTop (mkF m 94 (lA5_ p0 q1 q2 q3 q4 q5 hi aa bb b4) []))
        exact own_tail (h0 := h0) p0 q1 q2 q3 q4 q5 hi aa bb b4 em b3_6 b5_6 b7_6 b9_6 b11_6 k3_6 k5_6 k7_6 k9_6 k11_6 q1 q2 aa bb (2 : Int32) (0 : Int32) (0 : Int32) (0 : Int32) (2 : Int32) (1 : Int32) (by rw [← hhi]; exact own_hi _) X34 hx hZ hw hby hml hown Bd.returns Bd.notSynchronized rfl N0 Z0 E_b4 F_prices_b4 F_sizes_b4 F_left_b4 F_right_b4 F_heights_b4 F_root_b4 F_best_b4 F_unused_b4 F_free_b4 F_count_b4 F_highestFirst_b4 V_b3_6 V_b5_6 V_b7_6 V_b9_6 V_b11_6 g_b4 g_b3_6 g_b5_6 g_b7_6 g_b9_6 g_b11_6 ne_b3_6_b5_6 ne_b3_6_b7_6 ne_b3_6_b9_6 ne_b3_6_b11_6 ne_b5_6_b7_6 ne_b5_6_b9_6 ne_b5_6_b11_6 ne_b7_6_b9_6 ne_b7_6_b11_6 ne_b9_6_b11_6 (by rw [← haa]; exact own_nz _) (by rw [← hbb]; exact own_nz _) OZ S_EMPTY_ELEMENTDATA
    · skip
      show own_Go p e below _ (T8.setTop (mkF m 73 (lA5_ p0 q1 q2 q3 q4 q5 hi aa bb b4) [(.long bb), (.long q2), (.ref b4)]))
      refine own_cc (own_callV X8 hx hZ (y := y15_) (z := y15_) hown (hW hw 33 rfl) (hW hw 34 rfl) (notFace_of_selects (args := #[]) (mvT hZ (hW hw 36 rfl))) (hW hw 36 rfl) (hW hw 35 rfl) (hW hw 3 rfl) (hW hw 37 rfl) dE_ (rm3_53 l Z a0 hw [] b4 q2 bb b3_6 b5_6 b7_6 b9_6 b11_6 (1 : Int32) (0 : Int32) (1 : Int32) (nar .boolean hi) k3_6 (0 : Int64) q1 (0 : Int64) k5_6 (0 : Int64) aa (0 : Int64) k7_6 (0 : Int32) (0 : Int32) k9_6 (0 : Int32) (0 : Int32) (0 : Int32) k11_6 (0 : Int32) (1 : Int32) (0 : Int32) T8.heap n0 Z0 E_b4 g_b4 F_prices_b4 F_sizes_b4 F_left_b4 F_right_b4 F_heights_b4 F_root_b4 F_best_b4 F_unused_b4 F_free_b4 F_count_b4 F_highestFirst_b4 g_b3_6 V_b3_6 g_b5_6 V_b5_6 g_b7_6 V_b7_6 g_b9_6 V_b9_6 g_b11_6 V_b11_6 (by rw [← hbb]; exact own_nz _) (by decide : (0 : Int32) = (0 : Int32)) hc11 hc24 (by decide : (0 : Int32) = (0 : Int32)) (Ne.symm ne_b3_6_b5_6) (Ne.symm ne_b3_6_b7_6) (Ne.symm ne_b3_6_b9_6) (Ne.symm ne_b3_6_b11_6) (Ne.symm ne_b5_6_b7_6) (Ne.symm ne_b5_6_b9_6) (Ne.symm ne_b5_6_b11_6) (Ne.symm ne_b7_6_b9_6) (Ne.symm ne_b7_6_b11_6) (Ne.symm ne_b9_6_b11_6) (by decide : ¬ ((1 : Int32) < (-1 : Int32))) (by decide : ¬ ((-1 : Int32) < (-1 : Int32)))) (rfl : T8.heap = _) 0 dE_ dE_ dE_ dE_ rfl (by rw [hml]; rfl) b4 E_b4 [(.long q2), (.long bb)] [] rfl (lenOf pd_2 rfl) rfl (by show 2 * 0 + _ ≤ _; exact Nat.le_of_eq rfl) (hb hby at_73)) fun T36 L36 v36 X36 hQ36 => ?_
      obtain ⟨rfl, N36, K36, V_b11_6', V_b9_6', V_b7_6', V_b5_6', V_b3_6', E_b4', F_prices_b4', F_sizes_b4', F_left_b4', F_right_b4', F_heights_b4', F_root_b4', F_best_b4', F_unused_b4', F_free_b4', F_count_b4', F_highestFirst_b4'⟩ := hQ36
      replace N0 := Fr.app N0 N36
      replace E_b4 := E_b4.keep K36
      replace OZ := OZ.keep K36 (allS g_b11_6 (allS g_b9_6 (allS g_b7_6 (allS g_b5_6 (allS g_b3_6 (allS g_b4 all0))))))
      replace Z0 := Nat.le_trans Z0 K36.1
      have V_b11_6 : Arv Z T36.heap b11_6 k11_6 .byte (8 : Int32) [oZ, (.int (2 : Int32)), (.int (1 : Int32))] oZ := V_b11_6'
      have V_b9_6 := V_b9_6'
      have V_b7_6 := V_b7_6'
      have V_b5_6 := V_b5_6'
      have V_b3_6 := V_b3_6'
      replace E_b4 := E_b4'
      have F_prices_b4 := F_prices_b4'
      have F_sizes_b4 := F_sizes_b4'
      have F_left_b4 := F_left_b4'
      have F_right_b4 := F_right_b4'
      have F_heights_b4 := F_heights_b4'
      have F_root_b4 := F_root_b4'
      have F_best_b4 := F_best_b4'
      have F_unused_b4 := F_unused_b4'
      have F_free_b4 := F_free_b4'
      have F_count_b4 : Fld Z T36.heap b4 c0_ "count" "I" (.int (2 : Int32)) := F_count_b4'
      have F_highestFirst_b4 := F_highestFirst_b4'
      show own_Go p e below _ (T36.setTop (mkF m 76 (lA5_ p0 q1 q2 q3 q4 q5 hi aa bb b4) []))
      refine own_by (B := T36.setTop (mkF m 79 (lA5_ p0 q1 q2 q3 q4 q5 hi aa bb b4) [(.int (p0 &&& (2 : Int32)))])) (fun t k => ?_) ?_
      · refine XS.iloadN X36.here hx rfl (hb hby at_76) rfl ?_
        refine XS.iconst X36.here hx rfl (hb hby at_77) ?_
        refine XS.iand X36.here hx rfl (hb hby at_78) rfl ?_
        show Steps p.tables e below (T36.setTop (mkF m 79 (lA5_ p0 q1 q2 q3 q4 q5 hi aa bb b4) [(.int (p0 &&& (2 : Int32)))])) _
        exact k
      by_cases hc38 : (p0 &&& (2 : Int32)) = (0 : Int32)
      · skip
        refine own_by (fun t k => XS.ifYes X36.here hx rfl (pc0 := 79) (pc' := 89) rfl (hb hby at_79) rfl ((if0 _ _).trans (teq hc38).1) dE_ dE_ k) ?_
        show own_Go p e below _ (T36.setTop (mkF m 89 (lA5_ p0 q1 q2 q3 q4 q5 hi aa bb b4) []))
        refine own_by (B := T36.setTop (mkF m 91 (lA5_ p0 q1 q2 q3 q4 q5 hi aa bb b4) [(.ref b4)])) (fun t k => ?_) ?_
        · refine XS.aload X36.here hx rfl (hb hby at_89) rfl rfl ?_
          exact k
        refine own_cc (own_callV X36 hx hZ (y := y32_) (z := y32_) hown (hW hw 68 rfl) (hW hw 69 rfl) (notFace_of_selects (args := #[]) (mvT hZ (hW hw 71 rfl))) (hW hw 71 rfl) (hW hw 70 rfl) (hW hw 3 rfl) (hW hw 72 rfl) dE_ (rm11_58 l Z a0 hw [] b4 b3_6 b5_6 b7_6 b9_6 b11_6 (1 : Int32) (1 : Int32) (3 : Int32) (0 : Int32) (2 : Int32) (nar .boolean hi) T36.heap n0 Z0 g_b4 E_b4 F_prices_b4 F_sizes_b4 F_left_b4 F_right_b4 F_heights_b4 F_root_b4 F_best_b4 F_unused_b4 F_free_b4 F_count_b4 F_highestFirst_b4) (rfl : T36.heap = _) 0 dE_ dE_ dE_ dE_ rfl (by rw [hml]; rfl) b4 E_b4 [] [] rfl (lenOf pd_1 rfl) rfl (by show 2 * 0 + _ ≤ _; exact Nat.le_of_eq rfl) (hb hby at_91)) fun T40 L40 v40 X40 hQ40 => ?_
        obtain ⟨rfl, N40, K40, E_b4', F_prices_b4', F_sizes_b4', F_left_b4', F_right_b4', F_heights_b4', F_root_b4', F_best_b4', F_unused_b4', F_free_b4', F_count_b4', F_highestFirst_b4'⟩ := hQ40
        replace N0 := Fr.app N0 N40
        replace E_b4 := E_b4.keep K40
        replace V_b11_6 := V_b11_6.keep K40 (ninS (Ne.symm ne_b4_b11_6) nin0)
        replace V_b9_6 := V_b9_6.keep K40 (ninS (Ne.symm ne_b4_b9_6) nin0)
        replace V_b7_6 := V_b7_6.keep K40 (ninS (Ne.symm ne_b4_b7_6) nin0)
        replace V_b5_6 := V_b5_6.keep K40 (ninS (Ne.symm ne_b4_b5_6) nin0)
        replace V_b3_6 := V_b3_6.keep K40 (ninS (Ne.symm ne_b4_b3_6) nin0)
        replace OZ := OZ.keep K40 (allS g_b4 all0)
        replace Z0 := Nat.le_trans Z0 K40.1
        replace E_b4 := E_b4'
        have F_prices_b4 := F_prices_b4'
        have F_sizes_b4 := F_sizes_b4'
        have F_left_b4 := F_left_b4'
        have F_right_b4 := F_right_b4'
        have F_heights_b4 := F_heights_b4'
        have F_root_b4 := F_root_b4'
        have F_best_b4 := F_best_b4'
        have F_unused_b4 := F_unused_b4'
        have F_free_b4 := F_free_b4'
        have F_count_b4 := F_count_b4'
        have F_highestFirst_b4 := F_highestFirst_b4'
        show own_Go p e below _ (T40.setTop (mkF m 94 (lA5_ p0 q1 q2 q3 q4 q5 hi aa bb b4) []))
        exact own_tail (h0 := h0) p0 q1 q2 q3 q4 q5 hi aa bb b4 em b3_6 b5_6 b7_6 b9_6 b11_6 k3_6 k5_6 k7_6 k9_6 k11_6 q1 q2 aa bb (0 : Int32) (0 : Int32) (2 : Int32) (0 : Int32) (2 : Int32) (1 : Int32) (by rw [← hhi]; exact own_hi _) X40 hx hZ hw hby hml hown Bd.returns Bd.notSynchronized rfl N0 Z0 E_b4 F_prices_b4 F_sizes_b4 F_left_b4 F_right_b4 F_heights_b4 F_root_b4 F_best_b4 F_unused_b4 F_free_b4 F_count_b4 F_highestFirst_b4 V_b3_6 V_b5_6 V_b7_6 V_b9_6 V_b11_6 g_b4 g_b3_6 g_b5_6 g_b7_6 g_b9_6 g_b11_6 ne_b3_6_b5_6 ne_b3_6_b7_6 ne_b3_6_b9_6 ne_b3_6_b11_6 ne_b5_6_b7_6 ne_b5_6_b9_6 ne_b5_6_b11_6 ne_b7_6_b9_6 ne_b7_6_b11_6 ne_b9_6_b11_6 (by rw [← haa]; exact own_nz _) (by rw [← hbb]; exact own_nz _) OZ S_EMPTY_ELEMENTDATA
      · skip
        refine own_by (fun t k => XS.ifNo X36.here hx rfl (hb hby at_79) rfl ((if0 _ _).trans (feq hc38).1) k) ?_
        show own_Go p e below _ (T36.setTop (mkF m 82 (lA5_ p0 q1 q2 q3 q4 q5 hi aa bb b4) []))
        refine own_by (B := T36.setTop (mkF m 86 (lA5_ p0 q1 q2 q3 q4 q5 hi aa bb b4) [oY, (.long q1), (.ref b4)])) (fun t k => ?_) ?_
        · refine XS.aload X36.here hx rfl (hb hby at_82) rfl rfl ?_
          refine XS.lloadN X36.here hx rfl (hb hby at_84) rfl ?_
          refine XS.lconst X36.here hx rfl (hb hby at_85) ?_
          exact k
        refine own_cc (own_callV X36 hx hZ (y := y15_) (z := y15_) hown (hW hw 33 rfl) (hW hw 34 rfl) (notFace_of_selects (args := #[]) (mvT hZ (hW hw 36 rfl))) (hW hw 36 rfl) (hW hw 35 rfl) (hW hw 3 rfl) (hW hw 37 rfl) dE_ (rm3_64 l Z a0 hw [] b4 q1 (0 : Int64) b3_6 b5_6 b7_6 b9_6 b11_6 (1 : Int32) (3 : Int32) (0 : Int32) (2 : Int32) (nar .boolean hi) k3_6 (0 : Int64) q2 k7_6 (0 : Int32) (0 : Int32) (0 : Int32) k9_6 (0 : Int32) (0 : Int32) T36.heap n0 Z0 g_b4 E_b4 F_prices_b4 F_sizes_b4 F_left_b4 F_right_b4 F_heights_b4 F_root_b4 F_best_b4 F_unused_b4 F_free_b4 F_count_b4 F_highestFirst_b4 V_b3_6 V_b7_6 g_b9_6 V_b9_6 (by decide : (0 : Int64) = (0 : Int64)) (own_cp_self q1 (nar .boolean hi)).1 (own_cp_self q1 (nar .boolean hi)).2 (by decide : (0 : Int32) = (0 : Int32)) ne_b3_6_b9_6 ne_b7_6_b9_6 (by decide : (0 : Int32) = (0 : Int32))) (rfl : T36.heap = _) 0 dE_ dE_ dE_ dE_ rfl (by rw [hml]; rfl) b4 E_b4 [(.long q1), oY] [] rfl (lenOf pd_2 rfl) rfl (by show 2 * 0 + _ ≤ _; exact Nat.le_of_eq rfl) (hb hby at_86)) fun T42 L42 v42 X42 hQ42 => ?_
        obtain ⟨rfl, N42, K42, V_b9_6', E_b4', F_prices_b4', F_sizes_b4', F_left_b4', F_right_b4', F_heights_b4', F_root_b4', F_best_b4', F_unused_b4', F_free_b4', F_count_b4', F_highestFirst_b4'⟩ := hQ42
        replace N0 := Fr.app N0 N42
        replace E_b4 := E_b4.keep K42
        replace V_b11_6 := V_b11_6.keep K42 (ninS (Ne.symm ne_b9_6_b11_6) (ninS (Ne.symm ne_b4_b11_6) nin0))
        replace V_b7_6 := V_b7_6.keep K42 (ninS ne_b7_6_b9_6 (ninS (Ne.symm ne_b4_b7_6) nin0))
        replace V_b5_6 := V_b5_6.keep K42 (ninS ne_b5_6_b9_6 (ninS (Ne.symm ne_b4_b5_6) nin0))
        replace V_b3_6 := V_b3_6.keep K42 (ninS ne_b3_6_b9_6 (ninS (Ne.symm ne_b4_b3_6) nin0))
        replace OZ := OZ.keep K42 (allS g_b9_6 (allS g_b4 all0))
        replace Z0 := Nat.le_trans Z0 K42.1
        have V_b9_6 := V_b9_6'
        replace E_b4 := E_b4'
        have F_prices_b4 := F_prices_b4'
        have F_sizes_b4 := F_sizes_b4'
        have F_left_b4 := F_left_b4'
        have F_right_b4 := F_right_b4'
        have F_heights_b4 := F_heights_b4'
        have F_root_b4 := F_root_b4'
        have F_best_b4 := F_best_b4'
        have F_unused_b4 := F_unused_b4'
        have F_free_b4 := F_free_b4'
        have F_count_b4 : Fld Z T42.heap b4 c0_ "count" "I" (.int (1 : Int32)) := F_count_b4'
        have F_highestFirst_b4 := F_highestFirst_b4'
        show own_Go p e below _ (T42.setTop (mkF m 89 (lA5_ p0 q1 q2 q3 q4 q5 hi aa bb b4) []))
        refine own_by (B := T42.setTop (mkF m 91 (lA5_ p0 q1 q2 q3 q4 q5 hi aa bb b4) [(.ref b4)])) (fun t k => ?_) ?_
        · refine XS.aload X42.here hx rfl (hb hby at_89) rfl rfl ?_
          exact k
        refine own_cc (own_callV X42 hx hZ (y := y32_) (z := y32_) hown (hW hw 68 rfl) (hW hw 69 rfl) (notFace_of_selects (args := #[]) (mvT hZ (hW hw 71 rfl))) (hW hw 71 rfl) (hW hw 70 rfl) (hW hw 3 rfl) (hW hw 72 rfl) dE_ (rm11_58 l Z a0 hw [] b4 b3_6 b5_6 b7_6 b9_6 b11_6 (2 : Int32) (2 : Int32) (3 : Int32) (1 : Int32) (1 : Int32) (nar .boolean hi) T42.heap n0 Z0 g_b4 E_b4 F_prices_b4 F_sizes_b4 F_left_b4 F_right_b4 F_heights_b4 F_root_b4 F_best_b4 F_unused_b4 F_free_b4 F_count_b4 F_highestFirst_b4) (rfl : T42.heap = _) 0 dE_ dE_ dE_ dE_ rfl (by rw [hml]; rfl) b4 E_b4 [] [] rfl (lenOf pd_1 rfl) rfl (by show 2 * 0 + _ ≤ _; exact Nat.le_of_eq rfl) (hb hby at_91)) fun T44 L44 v44 X44 hQ44 => ?_
        obtain ⟨rfl, N44, K44, E_b4', F_prices_b4', F_sizes_b4', F_left_b4', F_right_b4', F_heights_b4', F_root_b4', F_best_b4', F_unused_b4', F_free_b4', F_count_b4', F_highestFirst_b4'⟩ := hQ44
        replace N0 := Fr.app N0 N44
        replace E_b4 := E_b4.keep K44
        replace V_b11_6 := V_b11_6.keep K44 (ninS (Ne.symm ne_b4_b11_6) nin0)
        replace V_b7_6 := V_b7_6.keep K44 (ninS (Ne.symm ne_b4_b7_6) nin0)
        replace V_b5_6 := V_b5_6.keep K44 (ninS (Ne.symm ne_b4_b5_6) nin0)
        replace V_b3_6 := V_b3_6.keep K44 (ninS (Ne.symm ne_b4_b3_6) nin0)
        replace V_b9_6 := V_b9_6.keep K44 (ninS (Ne.symm ne_b4_b9_6) nin0)
        replace OZ := OZ.keep K44 (allS g_b4 all0)
        replace Z0 := Nat.le_trans Z0 K44.1
        replace E_b4 := E_b4'
        have F_prices_b4 := F_prices_b4'
        have F_sizes_b4 := F_sizes_b4'
        have F_left_b4 := F_left_b4'
        have F_right_b4 := F_right_b4'
        have F_heights_b4 := F_heights_b4'
        have F_root_b4 := F_root_b4'
        have F_best_b4 := F_best_b4'
        have F_unused_b4 := F_unused_b4'
        have F_free_b4 := F_free_b4'
        have F_count_b4 := F_count_b4'
        have F_highestFirst_b4 := F_highestFirst_b4'
        show own_Go p e below _ (T44.setTop (mkF m 94 (lA5_ p0 q1 q2 q3 q4 q5 hi aa bb b4) []))
        exact own_tail (h0 := h0) p0 q1 q2 q3 q4 q5 hi aa bb b4 em b3_6 b5_6 b7_6 b9_6 b11_6 k3_6 k5_6 k7_6 k9_6 k11_6 q1 q2 aa bb (0 : Int32) (0 : Int32) (0 : Int32) (0 : Int32) (2 : Int32) (1 : Int32) (by rw [← hhi]; exact own_hi _) X44 hx hZ hw hby hml hown Bd.returns Bd.notSynchronized rfl N0 Z0 E_b4 F_prices_b4 F_sizes_b4 F_left_b4 F_right_b4 F_heights_b4 F_root_b4 F_best_b4 F_unused_b4 F_free_b4 F_count_b4 F_highestFirst_b4 V_b3_6 V_b5_6 V_b7_6 V_b9_6 V_b11_6 g_b4 g_b3_6 g_b5_6 g_b7_6 g_b9_6 g_b11_6 ne_b3_6_b5_6 ne_b3_6_b7_6 ne_b3_6_b9_6 ne_b3_6_b11_6 ne_b5_6_b7_6 ne_b5_6_b9_6 ne_b5_6_b11_6 ne_b7_6_b9_6 ne_b7_6_b11_6 ne_b9_6_b11_6 (by rw [← haa]; exact own_nz _) (by rw [← hbb]; exact own_nz _) OZ S_EMPTY_ELEMENTDATA

set_option maxRecDepth 65536 in
set_option maxHeartbeats 40000000 in
theorem comes_1 {Post : Tables → Env → Array Value → State → Outcome → State → Prop} (hpost : ∀ tb e args s v u, (limb_1_1.after args s (.returned v) u = true ∧ limb_1_2.after args s (.returned v) u = true ∧ True) → FrameEnd s (.returned v) u (Jvm.fieldLocs frame_1_writes args s ++ Jvm.arrayLocs frame_1_arrays args s ++ Jvm.staticLocs frame_1_statics s) 32 192 → Post tb e args s (.returned v) u) :
    ArmFor flags0 classFile x code maxLocals ret World_1 tables_1 room_1 Calls_1 rest_1 Pre_1 Post := by
  intro l hfl _ _ p e ha hc hk s m args below hf hA hF happ hP
  obtain ⟨hcalls, hrest, hpre⟩ := hP
  obtain ⟨-, -, -, hnamed, -, -, -, hat⟩ := (Spec.applies_iff hf).mp happ
  obtain ⟨hg, hn⟩ := and_e (Cond.before_iff.mp (show (Jvm.Cond.and given_1 narrow_1).before args s = true from hpre))
  obtain ⟨g0, g0'⟩ := and_e hg
  obtain ⟨g1, g1'⟩ := and_e g0'
  obtain ⟨g2, g2'⟩ := and_e g1'
  obtain ⟨g3, g3'⟩ := and_e g2'
  obtain ⟨g4, g4'⟩ := and_e g3'
  obtain ⟨g5, g5'⟩ := and_e g4'
  obtain ⟨w0, w1, w2, w3, w4, w5, rfl⟩ : ∃ w0 w1 w2 w3 w4 w5 : Value, args = #[w0, w1, w2, w3, w4, w5] := by
    have hs : args.size = 6 := by simpa [Cond.value, given_1] using g0
    obtain ⟨L⟩ := args
    match L, hs with
    | [w0, w1, w2, w3, w4, w5], _ => exact ⟨w0, w1, w2, w3, w4, w5, rfl⟩
  have hw := fun d (hd : d ∈ tables_1) => atoms_spec (ws := Jvm.Cond.code x code maxLocals ret :: tables_1) hat d (List.mem_cons_of_mem _ hd)
  have hfit : Fit s := fun {y c} hc i hi => by
    obtain ⟨ha, rfl⟩ := Array.getElem?_eq_some_iff.mp hc
    have q := List.all_eq_true.mp ((Array.all_eq_true_iff_forall_mem.mp hF) _ (Array.getElem_mem ha)) i (List.mem_range.mpr hi)
    simpa [Array.getElem?_eq_getElem hi] using q
  obtain ⟨i0, ei0⟩ := is_v g1
  obtain rfl : w0 = (.int i0) := Option.some.inj ei0
  obtain ⟨i1, ei1⟩ := isL_v g2
  obtain rfl : w1 = (.long i1) := Option.some.inj ei1
  obtain ⟨i2, ei2⟩ := isL_v g3
  obtain rfl : w2 = (.long i2) := Option.some.inj ei2
  obtain ⟨i3, ei3⟩ := isL_v g4
  obtain rfl : w3 = (.long i3) := Option.some.inj ei3
  obtain ⟨i4, ei4⟩ := isL_v g5
  obtain rfl : w4 = (.long i4) := Option.some.inj ei4
  obtain ⟨i5, ei5⟩ := isL_v g5'
  obtain rfl : w5 = (.long i5) := Option.some.inj ei5
  obtain ⟨hsets, hown0⟩ := atoms_of _ (rest_1_c_eq ▸ (show rest_1_c.before _ s = true from hrest))
  obtain ⟨em, vem⟩ := exa_v (Cond.before_iff.mp (hsets _ (List.mem_of_getElem? (i := 4) rfl)))
  have S_em := Sta.start vem (Or.inl (hsets _ (List.mem_of_getElem? (i := 1) rfl)))
  obtain ⟨n, o, h1, h2, h3, _, L, rfl, ⟨rfl, N⟩, hq⟩ := rm0 l s _ hw tables_1 i0 i1 i2 i3 i4 i5 em s.heap s.heap.size (Nat.le_refl _) (Old.start s) S_em p e ha hc hk s m _ below hf ((Spec.applies_iff_loose hf).mp happ).1 ⟨rfl, State.Warmed39.refl s, rfl⟩ trivial
  refine ⟨n, _, h1, h2, h3, hpost _ _ _ _ _ _ ⟨Cond.after_iff.mpr rfl, Cond.after_iff.mpr (eq_i res_at (Term.int_eval (1)) rfl), trivial⟩ ⟨hq.1, hq.2.1, (hq.2.2.sift fun y hy => Or.inr (N y hy)).mono dE_ dE_⟩⟩
theorem main_1_1 : Claimed_1_1 := comes_1 fun _ _ _ _ _ _ h hF => ⟨h.1, hF⟩
theorem main_1_2 : Claimed_1_2 := comes_1 fun _ _ _ _ _ _ h hF => ⟨h.2.1, hF⟩
end Jvm.Pilot.@@N@@
namespace Jvm.Pilot.@@N@@
open Jvm Jvm.ClassFile Sem Op Lib Jvm.Free Jvm.Stand Jvm.Pilot.@@N@@.Jvm.D
/-! MADE BY PROGRAM (witnessworld.py) out of the Statement's table words and the real class files: 30 classes; the members and pool entries that the words name. The judged class is class 1, her method 1. -/
namespace start1
open Jvm.ClassFile
def u (s : String) : CpInfo := .utf8 (stringToUtf16 s)
/-- a pool by its gaps: so many unusable entries, then the entry; so many at the end -/
def gap : Nat → List CpInfo → List CpInfo
  | 0, r => r
  | n + 1, r => .unusable :: gap n r
def poolList (es : List (Nat × CpInfo)) (last : Nat) : List CpInfo := es.foldr (fun e r => gap e.1 (e.2 :: r)) (gap last [])
def pool (es : List (Nat × CpInfo)) (last : Nat) : Array CpInfo := ⟨poolList es last⟩
def fileOf (pool : Array CpInfo) (this : Nat) (attrs : Array Attribute := #[]) (ms : Array MethodInfo := #[]) (fl : Nat := 33) (sup : Nat := 0) (ifs : Array Nat := #[]) (fds : Array FieldInfo := #[]) : ClassFile where
  minorVersion := 0
  majorVersion := 65
  constantPool := pool
  accessFlags := fl
  thisClass := this
  superClass := sup
  interfaces := ifs
  fields := fds
  methods := ms
  attributes := attrs
def plain (name : String) (sup : Option ClassId) : Class where
  name := name
  kind := .ordinary
  loader := none
  accessFlags := 33
  super := sup
  interfaces := #[]
  cf := none
  fields := #[]
  methods := #[]
  instanceTypes := #[]
  staticTypes := #[]
  resolved := #[]
  callSites := []
  init := .initialized
  statics := none
  mirror := none

def pool0 : Array CpInfo := pool [(5, u "<init>"), (0, u "()V"), (1, .class_ 10), (1, u "java/lang/Object")] 113

def k0c0 : Code := { maxStack := 0, maxLocals := 1, code := object_method_1_code, exceptionTable := #[], attributes := #[] }
def k0m0 : Method := { name := "<init>", desc := "()V", sig := { parameters := [], returnType := none }, accessFlags := 1, code := some k0c0 }
/-- java/lang/Object -/
def k0 : Class := { plain "java/lang/Object" none with
  accessFlags := 33
  interfaces := #[]
  cf := some (fileOf pool0 8 #[] #[{ accessFlags := 1, nameIndex := 5, descriptorIndex := 6, attributes := #[] }] 33 0 #[] #[])
  fields := #[]
  methods := #[k0m0]
  instanceTypes := #[]
  staticTypes := #[]
  resolved := Array.replicate 124 none
  statics := none }

def pool1 : Array CpInfo := pool [(2, .class_ 4), (1, u "java/lang/Object"), (0, u "<init>"), (0, u "()V"), (2, .long 9223372036854775807), (1, .class_ 12), (0, u "com/example/tidebook/tidebook/book/PriceLevels"), (0, .methodref 11 14), (0, .nameAndType 5 15), (0, u "(Z)V"), (0, .methodref 11 17), (0, .nameAndType 18 19), (0, u "set"), (0, u "(JJ)V"), (0, .methodref 11 21), (0, .nameAndType 22 6), (0, u "clear"), (0, .methodref 11 24), (0, .nameAndType 25 26), (0, u "bestPrice"), (0, u "()J"), (0, .methodref 11 28), (0, .nameAndType 29 26), (0, u "bestSize"), (0, .methodref 11 31), (0, .nameAndType 32 33), (0, u "levels"), (0, u "()Ljava/util/List;"), (0, .interfaceMethodref 35 36), (0, .class_ 37), (0, .nameAndType 38 39), (0, u "java/util/List"), (0, u "size"), (0, u "()I"), (0, .interfaceMethodref 35 41), (0, .nameAndType 42 43), (0, u "get"), (0, u "(I)Ljava/lang/Object;"), (0, .class_ 45), (0, u "com/example/tidebook/tidebook/model/PriceLevel"), (0, .methodref 44 47), (0, .nameAndType 48 26), (0, u "price"), (0, .methodref 44 50), (0, .nameAndType 38 26), (0, .methodref 52 53), (0, .class_ 54), (0, .nameAndType 55 56), (0, u "java/lang/Math"), (0, u "max"), (0, u "(JJ)J"), (0, .methodref 52 58), (0, .nameAndType 59 56), (0, u "min"), (0, .class_ 61), (0, u "com/example/tidebook/tidebook/book/PriceLevelsClearPinLaw"), (2, u "law"), (0, u "(IJJJJJ)Z")] 3

def k1m0 : Method := { name := "<init>", desc := "()V", sig := { parameters := [], returnType := none }, accessFlags := 1, code := none }
def k1c1 : Code := { maxStack := 5, maxLocals := 26, code := code, exceptionTable := #[], attributes := #[] }
def k1m1 : Method := { name := "law", desc := "(IJJJJJ)Z", sig := { parameters := [.int, .long, .long, .long, .long, .long], returnType := some .boolean }, accessFlags := 9, code := some k1c1 }
/-- com/example/tidebook/tidebook/book/PriceLevelsClearPinLaw -/
def k1 : Class := { plain "com/example/tidebook/tidebook/book/PriceLevelsClearPinLaw" (some 0) with
  accessFlags := 49
  interfaces := #[]
  cf := some (fileOf pool1 60 #[] #[{ accessFlags := 1, nameIndex := 5, descriptorIndex := 6, attributes := #[] }, { accessFlags := 9, nameIndex := 64, descriptorIndex := 65, attributes := #[] }] 49 2 #[] #[])
  fields := #[]
  methods := #[k1m0, k1m1]
  instanceTypes := #[]
  staticTypes := #[]
  resolved := Array.replicate 69 none
  statics := none }

def pool2 : Array CpInfo := pool [(3, .methodref 4 5), (0, .class_ 6), (0, .nameAndType 7 8), (0, u "java/lang/Object"), (0, u "<init>"), (0, u "()V"), (0, .class_ 10), (0, u "com/example/tidebook/tidebook/book/PriceLevels"), (0, .fieldref 9 12), (0, .nameAndType 13 14), (0, u "prices"), (0, u "[J"), (0, .fieldref 9 16), (0, .nameAndType 17 14), (0, u "sizes"), (0, .fieldref 9 19), (0, .nameAndType 20 21), (0, u "left"), (0, u "[I"), (0, .fieldref 9 23), (0, .nameAndType 24 21), (0, u "right"), (0, .fieldref 9 26), (0, .nameAndType 27 28), (0, u "heights"), (0, u "[B"), (0, .fieldref 9 30), (0, .nameAndType 31 32), (0, u "root"), (0, u "I"), (0, .fieldref 9 34), (0, .nameAndType 35 32), (0, u "best"), (0, .fieldref 9 37), (0, .nameAndType 38 32), (0, u "unused"), (0, .fieldref 9 40), (0, .nameAndType 41 32), (0, u "free"), (0, .fieldref 9 43), (0, .nameAndType 44 45), (0, u "highestFirst"), (0, u "Z"), (0, .methodref 9 47), (0, .nameAndType 48 49), (0, u "remove"), (0, u "(IJ)I"), (3, .methodref 9 54), (0, .nameAndType 55 56), (0, u "insert"), (0, u "(IJJ)I"), (0, .fieldref 9 58), (0, .nameAndType 59 32), (0, u "count"), (0, .class_ 61), (0, u "java/util/ArrayList"), (0, .methodref 60 63), (0, .nameAndType 7 64), (0, u "(I)V"), (0, .methodref 9 66), (0, .nameAndType 67 68), (0, u "collect"), (0, u "(ILjava/util/List;)V"), (0, .class_ 70), (0, u "com/example/tidebook/tidebook/model/PriceLevel"), (0, .methodref 69 72), (0, .nameAndType 7 73), (0, u "(JJ)V"), (0, .interfaceMethodref 75 76), (0, .class_ 77), (0, .nameAndType 78 79), (0, u "java/util/List"), (0, u "add"), (0, u "(Ljava/lang/Object;)Z"), (0, .methodref 9 81), (0, .nameAndType 82 83), (0, u "take"), (0, u "(JJ)I"), (0, .methodref 9 85), (0, .nameAndType 86 83), (0, u "compare"), (0, .methodref 9 88), (0, .nameAndType 89 90), (0, u "balance"), (0, u "(I)I"), (0, .methodref 9 92), (0, .nameAndType 93 64), (0, u "release"), (4, .methodref 9 99), (0, .nameAndType 100 64), (0, u "updateHeight"), (3, .methodref 105 106), (0, .class_ 107), (0, .nameAndType 108 109), (0, u "java/lang/Math"), (0, u "max"), (0, u "(II)I"), (33, .methodref 144 85), (0, .class_ 145), (0, u "java/lang/Long"), (0, u "NONE"), (2, u "FIRST_CAPACITY"), (1, u "MAX_CAPACITY"), (0, u "(Z)V"), (2, u "bestPrice"), (0, u "()J"), (0, u "bestSize"), (0, u "set"), (1, u "clear"), (0, u "levels"), (0, u "()Ljava/util/List;")] 20

def k2c0 : Code := { maxStack := 2, maxLocals := 2, code := prog_3_method_1_code, exceptionTable := #[], attributes := #[] }
def k2m0 : Method := { name := "<init>", desc := "(Z)V", sig := { parameters := [.boolean], returnType := none }, accessFlags := 0, code := some k2c0 }
def k2c1 : Code := { maxStack := 2, maxLocals := 1, code := prog_3_method_2_code, exceptionTable := #[], attributes := #[] }
def k2m1 : Method := { name := "bestPrice", desc := "()J", sig := { parameters := [], returnType := some .long }, accessFlags := 0, code := some k2c1 }
def k2c2 : Code := { maxStack := 2, maxLocals := 1, code := prog_3_method_3_code, exceptionTable := #[], attributes := #[] }
def k2m2 : Method := { name := "bestSize", desc := "()J", sig := { parameters := [], returnType := some .long }, accessFlags := 0, code := some k2c2 }
def k2c3 : Code := { maxStack := 7, maxLocals := 5, code := prog_3_method_4_code, exceptionTable := #[], attributes := #[] }
def k2m3 : Method := { name := "set", desc := "(JJ)V", sig := { parameters := [.long, .long], returnType := none }, accessFlags := 0, code := some k2c3 }
def k2c4 : Code := { maxStack := 2, maxLocals := 1, code := prog_3_method_5_code, exceptionTable := #[], attributes := #[] }
def k2m4 : Method := { name := "clear", desc := "()V", sig := { parameters := [], returnType := none }, accessFlags := 0, code := some k2c4 }
def k2c5 : Code := { maxStack := 3, maxLocals := 2, code := prog_3_method_6_code, exceptionTable := #[], attributes := #[] }
def k2m5 : Method := { name := "levels", desc := "()Ljava/util/List;", sig := { parameters := [], returnType := some (.object "java/util/List") }, accessFlags := 0, code := some k2c5 }
def k2c6 : Code := { maxStack := 7, maxLocals := 3, code := prog_3_method_7_code, exceptionTable := #[], attributes := #[] }
def k2m6 : Method := { name := "collect", desc := "(ILjava/util/List;)V", sig := { parameters := [.int, (.object "java/util/List")], returnType := none }, accessFlags := 2, code := some k2c6 }
def k2c7 : Code := { maxStack := 8, maxLocals := 7, code := prog_3_method_8_code, exceptionTable := #[], attributes := #[] }
def k2m7 : Method := { name := "insert", desc := "(IJJ)I", sig := { parameters := [.int, .long, .long], returnType := some .int }, accessFlags := 2, code := some k2c7 }
def k2c8 : Code := { maxStack := 6, maxLocals := 6, code := prog_3_method_9_code, exceptionTable := #[], attributes := #[] }
def k2m8 : Method := { name := "remove", desc := "(IJ)I", sig := { parameters := [.int, .long], returnType := some .int }, accessFlags := 2, code := some k2c8 }
def k2c9 : Code := { maxStack := 4, maxLocals := 3, code := prog_3_method_10_code, exceptionTable := #[], attributes := #[] }
def k2m9 : Method := { name := "balance", desc := "(I)I", sig := { parameters := [.int], returnType := some .int }, accessFlags := 2, code := some k2c9 }
def k2c10 : Code := { maxStack := 7, maxLocals := 2, code := prog_3_method_13_code, exceptionTable := #[], attributes := #[] }
def k2m10 : Method := { name := "updateHeight", desc := "(I)V", sig := { parameters := [.int], returnType := none }, accessFlags := 2, code := some k2c10 }
def k2c11 : Code := { maxStack := 4, maxLocals := 6, code := prog_3_method_14_code, exceptionTable := #[], attributes := #[] }
def k2m11 : Method := { name := "take", desc := "(JJ)I", sig := { parameters := [.long, .long], returnType := some .int }, accessFlags := 2, code := some k2c11 }
def k2c12 : Code := { maxStack := 3, maxLocals := 2, code := prog_3_method_15_code, exceptionTable := #[], attributes := #[] }
def k2m12 : Method := { name := "release", desc := "(I)V", sig := { parameters := [.int], returnType := none }, accessFlags := 2, code := some k2c12 }
def k2c13 : Code := { maxStack := 4, maxLocals := 5, code := prog_3_method_18_code, exceptionTable := #[], attributes := #[] }
def k2m13 : Method := { name := "compare", desc := "(JJ)I", sig := { parameters := [.long, .long], returnType := some .int }, accessFlags := 2, code := some k2c13 }
/-- com/example/tidebook/tidebook/book/PriceLevels -/
def k2 : Class := { plain "com/example/tidebook/tidebook/book/PriceLevels" (some 0) with
  accessFlags := 48
  interfaces := #[]
  cf := some (fileOf pool2 9 #[] #[{ accessFlags := 0, nameIndex := 7, descriptorIndex := 152, attributes := #[] }, { accessFlags := 0, nameIndex := 155, descriptorIndex := 156, attributes := #[] }, { accessFlags := 0, nameIndex := 157, descriptorIndex := 156, attributes := #[] }, { accessFlags := 0, nameIndex := 158, descriptorIndex := 73, attributes := #[] }, { accessFlags := 0, nameIndex := 160, descriptorIndex := 8, attributes := #[] }, { accessFlags := 0, nameIndex := 161, descriptorIndex := 162, attributes := #[] }, { accessFlags := 2, nameIndex := 67, descriptorIndex := 68, attributes := #[] }, { accessFlags := 2, nameIndex := 55, descriptorIndex := 56, attributes := #[] }, { accessFlags := 2, nameIndex := 48, descriptorIndex := 49, attributes := #[] }, { accessFlags := 2, nameIndex := 89, descriptorIndex := 90, attributes := #[] }, { accessFlags := 2, nameIndex := 100, descriptorIndex := 64, attributes := #[] }, { accessFlags := 2, nameIndex := 82, descriptorIndex := 83, attributes := #[] }, { accessFlags := 2, nameIndex := 93, descriptorIndex := 64, attributes := #[] }, { accessFlags := 2, nameIndex := 86, descriptorIndex := 83, attributes := #[] }] 48 4 #[] #[{ accessFlags := 26, nameIndex := 146, descriptorIndex := 32, attributes := #[] }, { accessFlags := 26, nameIndex := 149, descriptorIndex := 32, attributes := #[] }, { accessFlags := 26, nameIndex := 151, descriptorIndex := 32, attributes := #[] }, { accessFlags := 18, nameIndex := 44, descriptorIndex := 45, attributes := #[] }, { accessFlags := 2, nameIndex := 13, descriptorIndex := 14, attributes := #[] }, { accessFlags := 2, nameIndex := 17, descriptorIndex := 14, attributes := #[] }, { accessFlags := 2, nameIndex := 20, descriptorIndex := 21, attributes := #[] }, { accessFlags := 2, nameIndex := 24, descriptorIndex := 21, attributes := #[] }, { accessFlags := 2, nameIndex := 27, descriptorIndex := 28, attributes := #[] }, { accessFlags := 2, nameIndex := 31, descriptorIndex := 32, attributes := #[] }, { accessFlags := 2, nameIndex := 35, descriptorIndex := 32, attributes := #[] }, { accessFlags := 2, nameIndex := 38, descriptorIndex := 32, attributes := #[] }, { accessFlags := 2, nameIndex := 41, descriptorIndex := 32, attributes := #[] }, { accessFlags := 2, nameIndex := 59, descriptorIndex := 32, attributes := #[] }])
  fields := #[{ name := "NONE", type := .int, accessFlags := 26, slot := 0, constantValue := 0 }, { name := "FIRST_CAPACITY", type := .int, accessFlags := 26, slot := 1, constantValue := 0 }, { name := "MAX_CAPACITY", type := .int, accessFlags := 26, slot := 2, constantValue := 0 }, { name := "highestFirst", type := .boolean, accessFlags := 18, slot := 0, constantValue := 0 }, { name := "prices", type := (.array .long), accessFlags := 2, slot := 1, constantValue := 0 }, { name := "sizes", type := (.array .long), accessFlags := 2, slot := 2, constantValue := 0 }, { name := "left", type := (.array .int), accessFlags := 2, slot := 3, constantValue := 0 }, { name := "right", type := (.array .int), accessFlags := 2, slot := 4, constantValue := 0 }, { name := "heights", type := (.array .byte), accessFlags := 2, slot := 5, constantValue := 0 }, { name := "root", type := .int, accessFlags := 2, slot := 6, constantValue := 0 }, { name := "best", type := .int, accessFlags := 2, slot := 7, constantValue := 0 }, { name := "unused", type := .int, accessFlags := 2, slot := 8, constantValue := 0 }, { name := "free", type := .int, accessFlags := 2, slot := 9, constantValue := 0 }, { name := "count", type := .int, accessFlags := 2, slot := 10, constantValue := 0 }]
  methods := #[k2m0, k2m1, k2m2, k2m3, k2m4, k2m5, k2m6, k2m7, k2m8, k2m9, k2m10, k2m11, k2m12, k2m13]
  instanceTypes := #[.boolean, (.array .long), (.array .long), (.array .int), (.array .int), (.array .byte), .int, .int, .int, .int, .int]
  staticTypes := #[.int, .int, .int]
  resolved := Array.replicate 183 none
  statics := none }

def pool3 : Array CpInfo := pool [(1, .class_ 2), (0, u "java/io/Serializable"), (0, .class_ 4), (0, u "java/lang/Object")] 2

/-- java/io/Serializable -/
def k3 : Class := { plain "java/io/Serializable" (some 0) with
  accessFlags := 1537
  interfaces := #[]
  cf := some (fileOf pool3 1 #[] #[] 1537 3 #[] #[])
  fields := #[]
  methods := #[]
  instanceTypes := #[]
  staticTypes := #[]
  resolved := Array.replicate 7 none
  statics := none }

def pool4 : Array CpInfo := pool [(2, .class_ 4), (1, u "java/lang/Object"), (0, u "<init>"), (0, u "()V"), (1, .class_ 10), (1, u "java/lang/Number"), (2, .class_ 14), (0, u "java/io/Serializable"), (0, u "serialVersionUID"), (0, u "J")] 20

def k4m0 : Method := { name := "<init>", desc := "()V", sig := { parameters := [], returnType := none }, accessFlags := 1, code := none }
/-- java/lang/Number -/
def k4 : Class := { plain "java/lang/Number" (some 0) with
  accessFlags := 1057
  interfaces := #[3]
  cf := some (fileOf pool4 8 #[] #[{ accessFlags := 1, nameIndex := 5, descriptorIndex := 6, attributes := #[] }] 1057 2 #[13] #[{ accessFlags := 26, nameIndex := 15, descriptorIndex := 16, attributes := #[] }])
  fields := #[{ name := "serialVersionUID", type := .long, accessFlags := 26, slot := 0, constantValue := 0 }]
  methods := #[k4m0]
  instanceTypes := #[]
  staticTypes := #[.long]
  resolved := Array.replicate 37 none
  statics := none }

def pool5 : Array CpInfo := pool [(1, .class_ 2), (0, u "java/lang/Comparable"), (0, .class_ 4), (0, u "java/lang/Object")] 7

/-- java/lang/Comparable -/
def k5 : Class := { plain "java/lang/Comparable" (some 0) with
  accessFlags := 1537
  interfaces := #[]
  cf := some (fileOf pool5 1 #[] #[] 1537 3 #[] #[])
  fields := #[]
  methods := #[]
  instanceTypes := #[]
  staticTypes := #[]
  resolved := Array.replicate 12 none
  statics := none }

def pool6 : Array CpInfo := pool [(1, .class_ 2), (0, u "java/lang/constant/Constable"), (0, .class_ 4), (0, u "java/lang/Object")] 6

/-- java/lang/constant/Constable -/
def k6 : Class := { plain "java/lang/constant/Constable" (some 0) with
  accessFlags := 1537
  interfaces := #[]
  cf := some (fileOf pool6 1 #[] #[] 1537 3 #[] #[])
  fields := #[]
  methods := #[]
  instanceTypes := #[]
  staticTypes := #[]
  resolved := Array.replicate 11 none
  statics := none }

def pool7 : Array CpInfo := pool [(1, .class_ 2), (0, u "java/lang/constant/ConstantDesc"), (0, .class_ 4), (0, u "java/lang/Object")] 32

/-- java/lang/constant/ConstantDesc -/
def k7 : Class := { plain "java/lang/constant/ConstantDesc" (some 0) with
  accessFlags := 1537
  interfaces := #[]
  cf := some (fileOf pool7 1 #[] #[] 1537 3 #[] #[])
  fields := #[]
  methods := #[]
  instanceTypes := #[]
  staticTypes := #[]
  resolved := Array.replicate 37 none
  statics := none }

def pool8 : Array CpInfo := pool [(1, .class_ 2), (0, u "java/lang/Long"), (232, .class_ 237), (1, u "java/lang/Long$LongCache"), (33, .class_ 272), (0, u "java/lang/Number"), (2, u "value"), (0, u "J"), (27, u "compare"), (0, u "(JJ)I"), (55, u "TYPE"), (0, u "Ljava/lang/Class;"), (0, .class_ 364), (0, u "java/lang/Comparable"), (0, .class_ 366), (0, u "java/lang/constant/Constable"), (0, .class_ 368), (0, u "java/lang/constant/ConstantDesc"), (0, u "MIN_VALUE"), (1, u "MAX_VALUE"), (4, u "SIZE"), (0, u "I"), (1, u "BYTES"), (1, u "serialVersionUID")] 142

def k8c0 : Code := { maxStack := 4, maxLocals := 4, code := jdk_35_method_42_code, exceptionTable := #[], attributes := #[] }
def k8m0 : Method := { name := "compare", desc := "(JJ)I", sig := { parameters := [.long, .long], returnType := some .int }, accessFlags := 9, code := some k8c0 }
/-- java/lang/Long -/
def k8 : Class := { plain "java/lang/Long" (some 4) with
  accessFlags := 49
  interfaces := #[5, 6, 7]
  cf := some (fileOf pool8 1 #[.nestMembers #[235]] #[{ accessFlags := 9, nameIndex := 304, descriptorIndex := 305, attributes := #[] }] 49 271 #[363, 365, 367] #[{ accessFlags := 25, nameIndex := 369, descriptorIndex := 276, attributes := #[] }, { accessFlags := 25, nameIndex := 371, descriptorIndex := 276, attributes := #[] }, { accessFlags := 25, nameIndex := 361, descriptorIndex := 362, attributes := #[] }, { accessFlags := 18, nameIndex := 275, descriptorIndex := 276, attributes := #[] }, { accessFlags := 25, nameIndex := 376, descriptorIndex := 377, attributes := #[] }, { accessFlags := 25, nameIndex := 379, descriptorIndex := 377, attributes := #[] }, { accessFlags := 26, nameIndex := 381, descriptorIndex := 276, attributes := #[] }])
  fields := #[{ name := "MIN_VALUE", type := .long, accessFlags := 25, slot := 0, constantValue := 0 }, { name := "MAX_VALUE", type := .long, accessFlags := 25, slot := 1, constantValue := 0 }, { name := "TYPE", type := (.object "java/lang/Class"), accessFlags := 25, slot := 2, constantValue := 0 }, { name := "value", type := .long, accessFlags := 18, slot := 0, constantValue := 0 }, { name := "SIZE", type := .int, accessFlags := 25, slot := 3, constantValue := 0 }, { name := "BYTES", type := .int, accessFlags := 25, slot := 4, constantValue := 0 }, { name := "serialVersionUID", type := .long, accessFlags := 26, slot := 5, constantValue := 0 }]
  methods := #[k8m0]
  instanceTypes := #[.long]
  staticTypes := #[.long, .long, (.object "java/lang/Class"), .int, .int, .long]
  resolved := Array.replicate 524 none
  statics := none }

def pool9 : Array CpInfo := pool [(1, .class_ 2), (0, u "java/lang/Math"), (1, .class_ 6), (1, u "java/lang/Object"), (0, u "<init>"), (0, u "()V"), (89, .class_ 100), (1, u "java/lang/Math$RandomNumberGeneratorHolder"), (20, u "(JJ)J"), (50, u "negativeZeroFloatBits"), (0, u "J"), (2, u "negativeZeroDoubleBits"), (21, u "max"), (2, u "min"), (43, u "$assertionsDisabled"), (0, u "Z"), (88, u "(II)I"), (2, u "twoToTheDoubleScaleDown"), (0, u "D"), (4, u "twoToTheDoubleScaleUp"), (9, u "E"), (3, u "PI"), (2, u "TAU"), (2, u "DEGREES_TO_RADIANS"), (0, u "RADIANS_TO_DEGREES")] 94

def k9m0 : Method := { name := "<init>", desc := "()V", sig := { parameters := [], returnType := none }, accessFlags := 2, code := none }
def k9c1 : Code := { maxStack := 2, maxLocals := 2, code := jdk_29_method_65_code, exceptionTable := #[], attributes := #[] }
def k9m1 : Method := { name := "max", desc := "(II)I", sig := { parameters := [.int, .int], returnType := some .int }, accessFlags := 9, code := some k9c1 }
def k9c2 : Code := { maxStack := 4, maxLocals := 4, code := jdk_29_method_66_code, exceptionTable := #[], attributes := #[] }
def k9m2 : Method := { name := "max", desc := "(JJ)J", sig := { parameters := [.long, .long], returnType := some .long }, accessFlags := 9, code := some k9c2 }
def k9c3 : Code := { maxStack := 4, maxLocals := 4, code := jdk_29_method_70_code, exceptionTable := #[], attributes := #[] }
def k9m3 : Method := { name := "min", desc := "(JJ)J", sig := { parameters := [.long, .long], returnType := some .long }, accessFlags := 9, code := some k9c3 }
/-- java/lang/Math -/
def k9 : Class := { plain "java/lang/Math" (some 0) with
  accessFlags := 49
  interfaces := #[]
  cf := some (fileOf pool9 1 #[.nestMembers #[98]] #[{ accessFlags := 2, nameIndex := 7, descriptorIndex := 8, attributes := #[] }, { accessFlags := 9, nameIndex := 198, descriptorIndex := 335, attributes := #[] }, { accessFlags := 9, nameIndex := 198, descriptorIndex := 121, attributes := #[] }, { accessFlags := 9, nameIndex := 201, descriptorIndex := 121, attributes := #[] }] 49 4 #[] #[{ accessFlags := 25, nameIndex := 354, descriptorIndex := 339, attributes := #[] }, { accessFlags := 25, nameIndex := 358, descriptorIndex := 339, attributes := #[] }, { accessFlags := 25, nameIndex := 361, descriptorIndex := 339, attributes := #[] }, { accessFlags := 26, nameIndex := 364, descriptorIndex := 339, attributes := #[] }, { accessFlags := 26, nameIndex := 365, descriptorIndex := 339, attributes := #[] }, { accessFlags := 26, nameIndex := 172, descriptorIndex := 173, attributes := #[] }, { accessFlags := 26, nameIndex := 176, descriptorIndex := 173, attributes := #[] }, { accessFlags := 8, nameIndex := 344, descriptorIndex := 339, attributes := #[] }, { accessFlags := 8, nameIndex := 338, descriptorIndex := 339, attributes := #[] }, { accessFlags := 4120, nameIndex := 245, descriptorIndex := 246, attributes := #[] }])
  fields := #[{ name := "E", type := .double, accessFlags := 25, slot := 0, constantValue := 0 }, { name := "PI", type := .double, accessFlags := 25, slot := 1, constantValue := 0 }, { name := "TAU", type := .double, accessFlags := 25, slot := 2, constantValue := 0 }, { name := "DEGREES_TO_RADIANS", type := .double, accessFlags := 26, slot := 3, constantValue := 0 }, { name := "RADIANS_TO_DEGREES", type := .double, accessFlags := 26, slot := 4, constantValue := 0 }, { name := "negativeZeroFloatBits", type := .long, accessFlags := 26, slot := 5, constantValue := 0 }, { name := "negativeZeroDoubleBits", type := .long, accessFlags := 26, slot := 6, constantValue := 0 }, { name := "twoToTheDoubleScaleUp", type := .double, accessFlags := 8, slot := 7, constantValue := 0 }, { name := "twoToTheDoubleScaleDown", type := .double, accessFlags := 8, slot := 8, constantValue := 0 }, { name := "$assertionsDisabled", type := .boolean, accessFlags := 4120, slot := 9, constantValue := 0 }]
  methods := #[k9m0, k9m1, k9m2, k9m3]
  instanceTypes := #[]
  staticTypes := #[.double, .double, .double, .double, .double, .long, .long, .double, .double, .boolean]
  resolved := Array.replicate 460 none
  statics := none }

def pool10 : Array CpInfo := pool [(8, .class_ 10), (1, u "java/lang/Iterable"), (24, .class_ 36), (0, u "java/lang/Object")] 25

/-- java/lang/Iterable -/
def k10 : Class := { plain "java/lang/Iterable" (some 0) with
  accessFlags := 1537
  interfaces := #[]
  cf := some (fileOf pool10 8 #[] #[] 1537 35 #[] #[])
  fields := #[]
  methods := #[]
  instanceTypes := #[]
  staticTypes := #[]
  resolved := Array.replicate 62 none
  statics := none }

def pool11 : Array CpInfo := pool [(10, .class_ 12), (1, u "java/util/Collection"), (47, .class_ 61), (0, u "java/lang/Object"), (0, .class_ 63), (0, u "java/lang/Iterable")] 51

/-- java/util/Collection -/
def k11 : Class := { plain "java/util/Collection" (some 0) with
  accessFlags := 1537
  interfaces := #[10]
  cf := some (fileOf pool11 10 #[] #[] 1537 60 #[62] #[])
  fields := #[]
  methods := #[]
  instanceTypes := #[]
  staticTypes := #[]
  resolved := Array.replicate 115 none
  statics := none }

def pool12 : Array CpInfo := pool [(1, .methodref 2 3), (0, .class_ 4), (0, .nameAndType 5 6), (0, u "java/lang/Object"), (0, u "<init>"), (0, u "()V"), (1, .class_ 10), (1, u "java/util/AbstractCollection"), (66, .class_ 78), (0, u "java/util/Collection")] 81

def k12c0 : Code := { maxStack := 1, maxLocals := 1, code := jdk_22_method_1_code, exceptionTable := #[], attributes := #[] }
def k12m0 : Method := { name := "<init>", desc := "()V", sig := { parameters := [], returnType := none }, accessFlags := 4, code := some k12c0 }
/-- java/util/AbstractCollection -/
def k12 : Class := { plain "java/util/AbstractCollection" (some 0) with
  accessFlags := 1057
  interfaces := #[11]
  cf := some (fileOf pool12 8 #[] #[{ accessFlags := 4, nameIndex := 5, descriptorIndex := 6, attributes := #[] }] 1057 2 #[77] #[])
  fields := #[]
  methods := #[k12m0]
  instanceTypes := #[]
  staticTypes := #[]
  resolved := Array.replicate 160 none
  statics := none }

def pool13 : Array CpInfo := pool [(8, .class_ 10), (1, u "java/util/SequencedCollection"), (15, .class_ 27), (0, u "java/lang/Object"), (0, .class_ 29), (0, u "java/util/Collection")] 27

/-- java/util/SequencedCollection -/
def k13 : Class := { plain "java/util/SequencedCollection" (some 0) with
  accessFlags := 1537
  interfaces := #[11]
  cf := some (fileOf pool13 8 #[] #[] 1537 26 #[28] #[])
  fields := #[]
  methods := #[]
  instanceTypes := #[]
  staticTypes := #[]
  resolved := Array.replicate 57 none
  statics := none }

def pool14 : Array CpInfo := pool [(8, .class_ 10), (1, u "java/util/List"), (49, u "add"), (3, u "(Ljava/lang/Object;)Z"), (10, u "get"), (0, u "(I)Ljava/lang/Object;"), (2, u "size"), (0, u "()I"), (22, .class_ 104), (0, u "java/lang/Object"), (15, .class_ 121), (0, u "java/util/SequencedCollection")] 129

def k14m0 : Method := { name := "size", desc := "()I", sig := { parameters := [], returnType := some .int }, accessFlags := 1025, code := none }
def k14m1 : Method := { name := "add", desc := "(Ljava/lang/Object;)Z", sig := { parameters := [(.object "java/lang/Object")], returnType := some .boolean }, accessFlags := 1025, code := none }
def k14m2 : Method := { name := "get", desc := "(I)Ljava/lang/Object;", sig := { parameters := [.int], returnType := some (.object "java/lang/Object") }, accessFlags := 1025, code := none }
/-- java/util/List -/
def k14 : Class := { plain "java/util/List" (some 0) with
  accessFlags := 1537
  interfaces := #[13]
  cf := some (fileOf pool14 8 #[] #[{ accessFlags := 1025, nameIndex := 79, descriptorIndex := 80, attributes := #[] }, { accessFlags := 1025, nameIndex := 60, descriptorIndex := 64, attributes := #[] }, { accessFlags := 1025, nameIndex := 75, descriptorIndex := 76, attributes := #[] }] 1537 103 #[120] #[])
  fields := #[]
  methods := #[k14m0, k14m1, k14m2]
  instanceTypes := #[]
  staticTypes := #[]
  resolved := Array.replicate 251 none
  statics := none }

def pool15 : Array CpInfo := pool [(1, .methodref 2 3), (0, .class_ 4), (0, .nameAndType 5 6), (0, u "java/util/AbstractCollection"), (0, u "<init>"), (0, u "()V"), (0, .fieldref 8 9), (0, .class_ 10), (0, .nameAndType 11 12), (0, u "java/util/AbstractList"), (0, u "modCount"), (0, u "I"), (64, .class_ 78), (0, u "java/util/AbstractList$Itr"), (3, .class_ 83), (0, u "java/util/AbstractList$ListItr"), (9, .class_ 94), (0, u "java/util/AbstractList$RandomAccessSubList"), (3, .class_ 99), (0, u "java/util/AbstractList$SubList"), (33, .class_ 134), (0, u "java/util/List"), (73, .class_ 209), (0, u "java/util/AbstractList$SubList$1"), (0, .class_ 211), (0, u "java/util/AbstractList$RandomAccessSpliterator")] 6

def k15c0 : Code := { maxStack := 2, maxLocals := 1, code := jdk_39_method_1_code, exceptionTable := #[], attributes := #[] }
def k15m0 : Method := { name := "<init>", desc := "()V", sig := { parameters := [], returnType := none }, accessFlags := 4, code := some k15c0 }
/-- java/util/AbstractList -/
def k15 : Class := { plain "java/util/AbstractList" (some 12) with
  accessFlags := 1057
  interfaces := #[14]
  cf := some (fileOf pool15 8 #[.nestMembers #[93, 98, 208, 210, 82, 77]] #[{ accessFlags := 4, nameIndex := 5, descriptorIndex := 6, attributes := #[] }] 1057 2 #[133] #[{ accessFlags := 132, nameIndex := 11, descriptorIndex := 12, attributes := #[] }])
  fields := #[{ name := "modCount", type := .int, accessFlags := 132, slot := 0, constantValue := 0 }]
  methods := #[k15m0]
  instanceTypes := #[.int]
  staticTypes := #[]
  resolved := Array.replicate 218 none
  statics := none }

def pool16 : Array CpInfo := pool [(1, .class_ 2), (0, u "java/util/RandomAccess"), (0, .class_ 4), (0, u "java/lang/Object")] 2

/-- java/util/RandomAccess -/
def k16 : Class := { plain "java/util/RandomAccess" (some 0) with
  accessFlags := 1537
  interfaces := #[]
  cf := some (fileOf pool16 1 #[] #[] 1537 3 #[] #[])
  fields := #[]
  methods := #[]
  instanceTypes := #[]
  staticTypes := #[]
  resolved := Array.replicate 7 none
  statics := none }

def pool17 : Array CpInfo := pool [(1, .class_ 2), (0, u "java/lang/Cloneable"), (0, .class_ 4), (0, u "java/lang/Object")] 2

/-- java/lang/Cloneable -/
def k17 : Class := { plain "java/lang/Cloneable" (some 0) with
  accessFlags := 1537
  interfaces := #[]
  cf := some (fileOf pool17 1 #[] #[] 1537 3 #[] #[])
  fields := #[]
  methods := #[]
  instanceTypes := #[]
  staticTypes := #[]
  resolved := Array.replicate 7 none
  statics := none }

def pool18 : Array CpInfo := pool [(1, .methodref 2 3), (0, .class_ 4), (0, .nameAndType 5 6), (0, u "java/util/AbstractList"), (0, u "<init>"), (0, u "()V"), (0, .class_ 8), (0, u "java/lang/Object"), (0, .fieldref 10 11), (0, .class_ 12), (0, .nameAndType 13 14), (0, u "java/util/ArrayList"), (0, u "elementData"), (0, u "[Ljava/lang/Object;"), (0, .fieldref 10 16), (0, .nameAndType 17 14), (0, u "EMPTY_ELEMENTDATA"), (23, u "DEFAULTCAPACITY_EMPTY_ELEMENTDATA"), (6, .fieldref 10 49), (0, .nameAndType 50 51), (0, u "size"), (0, u "I"), (11, .fieldref 10 64), (0, .nameAndType 65 51), (0, u "modCount"), (18, u "(II)I"), (11, u "(Ljava/lang/Object;)Z"), (21, .methodref 119 120), (0, .class_ 121), (0, .nameAndType 122 84), (0, u "java/util/Objects"), (0, u "checkIndex"), (0, .methodref 10 124), (0, .nameAndType 13 125), (0, u "(I)Ljava/lang/Object;"), (5, .methodref 10 132), (0, .nameAndType 133 134), (0, u "add"), (0, u "(Ljava/lang/Object;[Ljava/lang/Object;I)V"), (3, u "(I)V"), (9, .class_ 149), (0, u "java/util/List"), (36, u "()I"), (75, .class_ 263), (0, u "java/util/ArrayList$ListItr"), (3, .class_ 268), (0, u "java/util/ArrayList$Itr"), (7, .class_ 277), (0, u "java/util/ArrayList$SubList"), (12, .class_ 291), (0, u "java/util/ArrayList$ArrayListSpliterator"), (37, .class_ 330), (0, u "java/util/RandomAccess"), (0, .class_ 332), (0, u "java/lang/Cloneable"), (0, .class_ 334), (0, u "java/io/Serializable"), (0, u "serialVersionUID"), (0, u "J"), (3, u "DEFAULT_CAPACITY"), (40, u "get"), (118, .class_ 501), (0, u "java/util/ArrayList$SubList$2"), (0, .class_ 503), (0, u "java/util/ArrayList$SubList$1")] 5

def k18c0 : Code := { maxStack := 4, maxLocals := 2, code := jdk_38_method_1_code, exceptionTable := #[], attributes := #[] }
def k18m0 : Method := { name := "<init>", desc := "(I)V", sig := { parameters := [.int], returnType := none }, accessFlags := 1, code := some k18c0 }
def k18m1 : Method := { name := "<init>", desc := "()V", sig := { parameters := [], returnType := none }, accessFlags := 1, code := none }
def k18c2 : Code := { maxStack := 1, maxLocals := 1, code := jdk_38_method_8_code, exceptionTable := #[], attributes := #[] }
def k18m2 : Method := { name := "size", desc := "()I", sig := { parameters := [], returnType := some .int }, accessFlags := 1, code := some k18c2 }
def k18c3 : Code := { maxStack := 2, maxLocals := 2, code := jdk_38_method_18_code, exceptionTable := #[], attributes := #[] }
def k18m3 : Method := { name := "elementData", desc := "(I)Ljava/lang/Object;", sig := { parameters := [.int], returnType := some (.object "java/lang/Object") }, accessFlags := 0, code := some k18c3 }
def k18c4 : Code := { maxStack := 2, maxLocals := 2, code := jdk_38_method_20_code, exceptionTable := #[], attributes := #[] }
def k18m4 : Method := { name := "get", desc := "(I)Ljava/lang/Object;", sig := { parameters := [.int], returnType := some (.object "java/lang/Object") }, accessFlags := 1, code := some k18c4 }
def k18c5 : Code := { maxStack := 3, maxLocals := 4, code := jdk_38_method_24_code, exceptionTable := #[], attributes := #[] }
def k18m5 : Method := { name := "add", desc := "(Ljava/lang/Object;[Ljava/lang/Object;I)V", sig := { parameters := [(.object "java/lang/Object"), (.array (.object "java/lang/Object")), .int], returnType := none }, accessFlags := 2, code := some k18c5 }
def k18c6 : Code := { maxStack := 4, maxLocals := 2, code := jdk_38_method_25_code, exceptionTable := #[], attributes := #[] }
def k18m6 : Method := { name := "add", desc := "(Ljava/lang/Object;)Z", sig := { parameters := [(.object "java/lang/Object")], returnType := some .boolean }, accessFlags := 1, code := some k18c6 }
/-- java/util/ArrayList -/
def k18 : Class := { plain "java/util/ArrayList" (some 15) with
  accessFlags := 33
  interfaces := #[14, 16, 17, 3]
  cf := some (fileOf pool18 10 #[.nestMembers #[290, 276, 500, 502, 262, 267]] #[{ accessFlags := 1, nameIndex := 5, descriptorIndex := 138, attributes := #[] }, { accessFlags := 1, nameIndex := 5, descriptorIndex := 6, attributes := #[] }, { accessFlags := 1, nameIndex := 50, descriptorIndex := 186, attributes := #[] }, { accessFlags := 0, nameIndex := 13, descriptorIndex := 125, attributes := #[] }, { accessFlags := 1, nameIndex := 381, descriptorIndex := 125, attributes := #[] }, { accessFlags := 2, nameIndex := 133, descriptorIndex := 134, attributes := #[] }, { accessFlags := 1, nameIndex := 133, descriptorIndex := 96, attributes := #[] }] 33 2 #[148, 329, 331, 333] #[{ accessFlags := 26, nameIndex := 335, descriptorIndex := 336, attributes := #[] }, { accessFlags := 26, nameIndex := 340, descriptorIndex := 51, attributes := #[] }, { accessFlags := 26, nameIndex := 17, descriptorIndex := 14, attributes := #[] }, { accessFlags := 26, nameIndex := 41, descriptorIndex := 14, attributes := #[] }, { accessFlags := 128, nameIndex := 13, descriptorIndex := 14, attributes := #[] }, { accessFlags := 2, nameIndex := 50, descriptorIndex := 51, attributes := #[] }])
  fields := #[{ name := "serialVersionUID", type := .long, accessFlags := 26, slot := 0, constantValue := 0 }, { name := "DEFAULT_CAPACITY", type := .int, accessFlags := 26, slot := 1, constantValue := 0 }, { name := "EMPTY_ELEMENTDATA", type := (.array (.object "java/lang/Object")), accessFlags := 26, slot := 2, constantValue := 0 }, { name := "DEFAULTCAPACITY_EMPTY_ELEMENTDATA", type := (.array (.object "java/lang/Object")), accessFlags := 26, slot := 3, constantValue := 0 }, { name := "elementData", type := (.array (.object "java/lang/Object")), accessFlags := 128, slot := 1, constantValue := 0 }, { name := "size", type := .int, accessFlags := 2, slot := 2, constantValue := 0 }]
  methods := #[k18m0, k18m1, k18m2, k18m3, k18m4, k18m5, k18m6]
  instanceTypes := #[.int, (.array (.object "java/lang/Object")), .int]
  staticTypes := #[.long, .int, (.array (.object "java/lang/Object")), (.array (.object "java/lang/Object"))]
  resolved := Array.replicate 509 none
  statics := some 0 }

def pool19 : Array CpInfo := pool [(1, .methodref 2 3), (0, .class_ 4), (0, .nameAndType 5 6), (0, u "java/lang/Object"), (0, u "<init>"), (0, u "()V"), (0, .class_ 8), (0, u "java/lang/Record")] 13

def k19c0 : Code := { maxStack := 1, maxLocals := 1, code := jdk_30_method_1_code, exceptionTable := #[], attributes := #[] }
def k19m0 : Method := { name := "<init>", desc := "()V", sig := { parameters := [], returnType := none }, accessFlags := 4, code := some k19c0 }
/-- java/lang/Record -/
def k19 : Class := { plain "java/lang/Record" (some 0) with
  accessFlags := 1057
  interfaces := #[]
  cf := some (fileOf pool19 7 #[] #[{ accessFlags := 4, nameIndex := 5, descriptorIndex := 6, attributes := #[] }] 1057 2 #[] #[])
  fields := #[]
  methods := #[k19m0]
  instanceTypes := #[]
  staticTypes := #[]
  resolved := Array.replicate 22 none
  statics := none }

def pool20 : Array CpInfo := pool [(1, .methodref 2 3), (0, .class_ 4), (0, .nameAndType 5 6), (0, u "java/lang/Record"), (0, u "<init>"), (0, u "()V"), (0, .fieldref 8 9), (0, .class_ 10), (0, .nameAndType 11 12), (0, u "com/example/tidebook/tidebook/model/PriceLevel"), (0, u "price"), (0, u "J"), (0, .fieldref 8 14), (0, .nameAndType 15 12), (0, u "size"), (12, u "(JJ)V"), (6, u "()J")] 21

def k20c0 : Code := { maxStack := 3, maxLocals := 5, code := prog_52_method_1_code, exceptionTable := #[], attributes := #[] }
def k20m0 : Method := { name := "<init>", desc := "(JJ)V", sig := { parameters := [.long, .long], returnType := none }, accessFlags := 1, code := some k20c0 }
def k20c1 : Code := { maxStack := 2, maxLocals := 1, code := prog_52_method_5_code, exceptionTable := #[], attributes := #[] }
def k20m1 : Method := { name := "price", desc := "()J", sig := { parameters := [], returnType := some .long }, accessFlags := 1, code := some k20c1 }
def k20c2 : Code := { maxStack := 2, maxLocals := 1, code := prog_52_method_6_code, exceptionTable := #[], attributes := #[] }
def k20m2 : Method := { name := "size", desc := "()J", sig := { parameters := [], returnType := some .long }, accessFlags := 1, code := some k20c2 }
/-- com/example/tidebook/tidebook/model/PriceLevel -/
def k20 : Class := { plain "com/example/tidebook/tidebook/model/PriceLevel" (some 19) with
  accessFlags := 49
  interfaces := #[]
  cf := some (fileOf pool20 8 #[] #[{ accessFlags := 1, nameIndex := 5, descriptorIndex := 28, attributes := #[] }, { accessFlags := 1, nameIndex := 11, descriptorIndex := 35, attributes := #[] }, { accessFlags := 1, nameIndex := 15, descriptorIndex := 35, attributes := #[] }] 49 2 #[] #[{ accessFlags := 18, nameIndex := 11, descriptorIndex := 12, attributes := #[] }, { accessFlags := 18, nameIndex := 15, descriptorIndex := 12, attributes := #[] }])
  fields := #[{ name := "price", type := .long, accessFlags := 18, slot := 0, constantValue := 0 }, { name := "size", type := .long, accessFlags := 18, slot := 1, constantValue := 0 }]
  methods := #[k20m0, k20m1, k20m2]
  instanceTypes := #[.long, .long]
  staticTypes := #[]
  resolved := Array.replicate 57 none
  statics := none }

def pool21 : Array CpInfo := pool [(2, .class_ 4), (1, u "java/lang/Object"), (0, u "<init>"), (0, u "()V"), (35, .class_ 44), (1, u "java/util/Objects"), (60, .methodref 106 107), (0, .class_ 108), (0, .nameAndType 109 110), (0, u "jdk/internal/util/Preconditions"), (0, u "checkIndex"), (0, u "(IILjava/util/function/BiFunction;)I"), (60, u "(II)I")] 12

def k21m0 : Method := { name := "<init>", desc := "()V", sig := { parameters := [], returnType := none }, accessFlags := 2, code := none }
def k21c1 : Code := { maxStack := 3, maxLocals := 2, code := jdk_31_method_17_code, exceptionTable := #[], attributes := #[] }
def k21m1 : Method := { name := "checkIndex", desc := "(II)I", sig := { parameters := [.int, .int], returnType := some .int }, accessFlags := 9, code := some k21c1 }
/-- java/util/Objects -/
def k21 : Class := { plain "java/util/Objects" (some 0) with
  accessFlags := 49
  interfaces := #[]
  cf := some (fileOf pool21 42 #[] #[{ accessFlags := 2, nameIndex := 5, descriptorIndex := 6, attributes := #[] }, { accessFlags := 9, nameIndex := 109, descriptorIndex := 171, attributes := #[] }] 49 2 #[] #[])
  fields := #[]
  methods := #[k21m0, k21m1]
  instanceTypes := #[]
  staticTypes := #[]
  resolved := Array.replicate 184 none
  statics := none }

def pool22 : Array CpInfo := pool [(2, .class_ 4), (1, u "java/lang/Object"), (0, u "<init>"), (0, u "()V"), (17, .class_ 26), (1, u "jdk/internal/util/Preconditions"), (6, u "checkIndex"), (21, .class_ 56), (0, u "jdk/internal/util/Preconditions$4"), (57, .class_ 115), (0, u "jdk/internal/util/Preconditions$1"), (7, u "SIOOBE_FORMATTER"), (0, u "Ljava/util/function/BiFunction;"), (0, .class_ 126), (0, u "jdk/internal/util/Preconditions$2"), (3, u "AIOOBE_FORMATTER"), (0, .class_ 132), (0, u "jdk/internal/util/Preconditions$3"), (3, u "IOOBE_FORMATTER"), (41, u "(IILjava/util/function/BiFunction;)I")] 15

def k22m0 : Method := { name := "<init>", desc := "()V", sig := { parameters := [], returnType := none }, accessFlags := 1, code := none }
def k22c1 : Code := { maxStack := 3, maxLocals := 3, code := jdk_41_method_11_code, exceptionTable := #[], attributes := #[] }
def k22m1 : Method := { name := "checkIndex", desc := "(IILjava/util/function/BiFunction;)I", sig := { parameters := [.int, .int, (.object "java/util/function/BiFunction")], returnType := some .int }, accessFlags := 9, code := some k22c1 }
/-- jdk/internal/util/Preconditions -/
def k22 : Class := { plain "jdk/internal/util/Preconditions" (some 0) with
  accessFlags := 33
  interfaces := #[]
  cf := some (fileOf pool22 24 #[.nestMembers #[55, 131, 125, 114]] #[{ accessFlags := 1, nameIndex := 5, descriptorIndex := 6, attributes := #[] }, { accessFlags := 9, nameIndex := 33, descriptorIndex := 178, attributes := #[] }] 33 2 #[] #[{ accessFlags := 25, nameIndex := 123, descriptorIndex := 124, attributes := #[] }, { accessFlags := 25, nameIndex := 130, descriptorIndex := 124, attributes := #[] }, { accessFlags := 25, nameIndex := 136, descriptorIndex := 124, attributes := #[] }])
  fields := #[{ name := "SIOOBE_FORMATTER", type := (.object "java/util/function/BiFunction"), accessFlags := 25, slot := 0, constantValue := 0 }, { name := "AIOOBE_FORMATTER", type := (.object "java/util/function/BiFunction"), accessFlags := 25, slot := 1, constantValue := 0 }, { name := "IOOBE_FORMATTER", type := (.object "java/util/function/BiFunction"), accessFlags := 25, slot := 2, constantValue := 0 }]
  methods := #[k22m0, k22m1]
  instanceTypes := #[]
  staticTypes := #[(.object "java/util/function/BiFunction"), (.object "java/util/function/BiFunction"), (.object "java/util/function/BiFunction")]
  resolved := Array.replicate 194 none
  statics := none }

/-- the primitive byte -/
def k23 : Class := { plain "byte" none with kind := .primitive 'B', accessFlags := 0x411 }
/-- [B -/
def k24 : Class := { plain "[B" (some 0) with kind := .array 23 .byte, interfaces := #[17, 3], accessFlags := 1041 }

/-- the primitive int -/
def k25 : Class := { plain "int" none with kind := .primitive 'I', accessFlags := 0x411 }
/-- [I -/
def k26 : Class := { plain "[I" (some 0) with kind := .array 25 .int, interfaces := #[17, 3], accessFlags := 1041 }

/-- the primitive long -/
def k27 : Class := { plain "long" none with kind := .primitive 'J', accessFlags := 0x411 }
/-- [J -/
def k28 : Class := { plain "[J" (some 0) with kind := .array 27 .long, interfaces := #[17, 3], accessFlags := 1041 }

/-- [Ljava/lang/Object; -/
def k29 : Class := { plain "[Ljava/lang/Object;" (some 0) with kind := .array 0 (.object "java/lang/Object"), interfaces := #[17, 3], accessFlags := 1041 }

def heap : Heap := #[{ cls := 18, slots := #[.long 0, .int 0, .ref 1, .ref 2], vm := .statics 18 },
  { cls := 29, slots := #[], vm := .none },
  { cls := 29, slots := #[], vm := .none }]
def classes : Array Class := #[k0, k1, k2, k3, k4, k5, k6, k7, k8, k9, k10, k11, k12, k13, k14, k15, k16, k17, k18, k19, k20, k21, k22, k23, k24, k25, k26, k27, k28, k29]
def interned : List (Array UInt16 × Addr) := []
def slotsUsed : Nat := 4
def theMethod : MethodId := ⟨1, 1⟩
def args0 : Array Value := #[.int 5, .long 1, .long 2, .long 3, .long 4, .long 5]
def aboutOver (below : List Frame) : State where
  vm := { classes := classes, interned := interned.toArray }
  heap := heap
  slotsUsed := slotsUsed
  threads := #[{ frames := .invoking theMethod args0 :: below }]
def below0 : List Frame := [.native { method := ⟨0, 0⟩, args := #[] }]
def about1 : State := aboutOver below0
def p0 : Program := .bare "" "" ""
def e0 : Env := launch0.env 0 0 0
theorem w_frames : about1.frames = Frame.invoking theMethod args0 :: below0 := rfl
set_option maxRecDepth 65536 in
theorem w_args : argsFit about1.vm theMethod args0 = true := by decide +kernel
set_option maxRecDepth 65536 in
theorem w_heap : heapFits about1 = true := by decide +kernel
set_option maxRecDepth 65536 in
theorem w_runnable : about1.curStatus? = some .runnable := by decide +kernel
set_option maxRecDepth 65536 in
theorem w_alone : about1.alone = true := by decide +kernel
set_option maxRecDepth 65536 in
theorem w_named : about1.methodNamed? x = some theMethod := by decide +kernel
set_option maxRecDepth 65536 in
theorem w_hears : about1.hears theMethod below0 = true := by decide +kernel
set_option maxRecDepth 65536 in
theorem w_ripe : about1.ripe theMethod args0 below0 = true := by decide +kernel
theorem w_running : about1.status = .running := rfl
set_option maxRecDepth 65536 in
theorem w_room : about1.hasRoom e0.platform room_1 = true :=
  launch0.hasRoom_least _ room_1 (by decide +kernel) (by decide +kernel) (by decide +kernel) (by decide +kernel) (by decide +kernel) (by decide +kernel)
theorem allAtoms_all (ts : List Jvm.Cond) (a : Array Jvm.Value) (st : Jvm.State) : (allAtoms ts).before a st = ts.all (fun c => c.before a st) := by
  induction ts with
  | nil => rfl
  | cons c t ih =>
    show (Jvm.Cond.and c (allAtoms t)).before a st = _
    rw [Jvm.Cond.before_and, ih, List.all_cons]
def words1 : List Jvm.Cond := Jvm.Cond.code x code maxLocals ret :: tables_1
/-- a 'code' word, met by the world's own term for the bytes: nothing is compared byte by byte -/
theorem code_word {y : MethodName} {bytes : ByteArray} {mx : Nat} {rt : Option FieldType} {a : Array Value} {s : State} {m : MethodId} {meth : Method} {c : Code} (h1 : s.methodNamed? y = some m) (h2 : s.vm.method? m = some meth) (h3 : meth.code = some c) (h4 : c.code = bytes)
    (h5 : (c.maxLocals == mx && c.exceptionTable.isEmpty && decide (c.maxStack ≤ mostOperands) && decide (meth.sig.returnType = rt) && !meth.locks && decide (parseMethodDescriptor y.desc = some meth.sig)) = true) : (Jvm.Cond.code y bytes mx rt).before a s = true := by
  simp only [Bool.and_eq_true, beq_iff_eq, Bool.not_eq_true', decide_eq_true_eq] at h5
  obtain ⟨⟨⟨⟨⟨g1, g2⟩, g3⟩, g4⟩, g5⟩, g6⟩ := h5
  simp [Cond.before, Cond.holds, Cond.value, h1, h2, h3, h4, g1, g2, g3, g4, g5, g6]
def isCode : Jvm.Cond → Bool
  | .code _ _ _ _ => true
  | _ => false
theorem all_split {L : List Jvm.Cond} {P : Jvm.Cond → Bool} (h1 : L.all (fun c => isCode c || P c) = true) (h2 : ∀ c ∈ L.filter isCode, P c = true) : L.all P = true := by
  refine List.all_eq_true.mpr fun c hc => ?_
  have h := List.all_eq_true.mp h1 c hc
  rcases Bool.eq_false_or_eq_true (isCode c) with hi | hi
  · exact h2 c (List.mem_filter.mpr ⟨hc, hi⟩)
  · simpa [hi] using h
set_option maxRecDepth 65536 in
theorem w_c0 : (Jvm.Cond.code x code maxLocals ret).before args0 about1 = true := code_word (m := ⟨1, 1⟩) (meth := k1m1) (c := k1c1) (by decide +kernel) rfl rfl rfl (by decide +kernel)
set_option maxRecDepth 65536 in
theorem w_c1 : (Jvm.Cond.code ({ cls := "com/example/tidebook/tidebook/book/PriceLevels", name := "<init>", desc := "(Z)V" } : Jvm.MethodName) prog_3_method_1_code (2 : Nat) (Option.none : Option Jvm.ClassFile.FieldType)).before args0 about1 = true := code_word (m := ⟨2, 0⟩) (meth := k2m0) (c := k2c0) (by decide +kernel) rfl rfl rfl (by decide +kernel)
set_option maxRecDepth 65536 in
theorem w_c2 : (Jvm.Cond.code ({ cls := "java/lang/Object", name := "<init>", desc := "()V" } : Jvm.MethodName) object_method_1_code (1 : Nat) (Option.none : Option Jvm.ClassFile.FieldType)).before args0 about1 = true := code_word (m := ⟨0, 0⟩) (meth := k0m0) (c := k0c0) (by decide +kernel) rfl rfl rfl (by decide +kernel)
set_option maxRecDepth 65536 in
theorem w_c3 : (Jvm.Cond.code ({ cls := "com/example/tidebook/tidebook/book/PriceLevels", name := "set", desc := "(JJ)V" } : Jvm.MethodName) prog_3_method_4_code (5 : Nat) (Option.none : Option Jvm.ClassFile.FieldType)).before args0 about1 = true := code_word (m := ⟨2, 3⟩) (meth := k2m3) (c := k2c3) (by decide +kernel) rfl rfl rfl (by decide +kernel)
set_option maxRecDepth 65536 in
theorem w_c4 : (Jvm.Cond.code ({ cls := "com/example/tidebook/tidebook/book/PriceLevels", name := "insert", desc := "(IJJ)I" } : Jvm.MethodName) prog_3_method_8_code (7 : Nat) (Option.some Jvm.ClassFile.FieldType.int)).before args0 about1 = true := code_word (m := ⟨2, 7⟩) (meth := k2m7) (c := k2c7) (by decide +kernel) rfl rfl rfl (by decide +kernel)
set_option maxRecDepth 65536 in
theorem w_c5 : (Jvm.Cond.code ({ cls := "com/example/tidebook/tidebook/book/PriceLevels", name := "take", desc := "(JJ)I" } : Jvm.MethodName) prog_3_method_14_code (6 : Nat) (Option.some Jvm.ClassFile.FieldType.int)).before args0 about1 = true := code_word (m := ⟨2, 11⟩) (meth := k2m11) (c := k2c11) (by decide +kernel) rfl rfl rfl (by decide +kernel)
set_option maxRecDepth 65536 in
theorem w_c6 : (Jvm.Cond.code ({ cls := "com/example/tidebook/tidebook/book/PriceLevels", name := "compare", desc := "(JJ)I" } : Jvm.MethodName) prog_3_method_18_code (5 : Nat) (Option.some Jvm.ClassFile.FieldType.int)).before args0 about1 = true := code_word (m := ⟨2, 13⟩) (meth := k2m13) (c := k2c13) (by decide +kernel) rfl rfl rfl (by decide +kernel)
set_option maxRecDepth 65536 in
theorem w_c7 : (Jvm.Cond.code ({ cls := "java/lang/Long", name := "compare", desc := "(JJ)I" } : Jvm.MethodName) jdk_35_method_42_code (4 : Nat) (Option.some Jvm.ClassFile.FieldType.int)).before args0 about1 = true := code_word (m := ⟨8, 0⟩) (meth := k8m0) (c := k8c0) (by decide +kernel) rfl rfl rfl (by decide +kernel)
set_option maxRecDepth 65536 in
theorem w_c8 : (Jvm.Cond.code ({ cls := "com/example/tidebook/tidebook/book/PriceLevels", name := "balance", desc := "(I)I" } : Jvm.MethodName) prog_3_method_10_code (3 : Nat) (Option.some Jvm.ClassFile.FieldType.int)).before args0 about1 = true := code_word (m := ⟨2, 9⟩) (meth := k2m9) (c := k2c9) (by decide +kernel) rfl rfl rfl (by decide +kernel)
set_option maxRecDepth 65536 in
theorem w_c9 : (Jvm.Cond.code ({ cls := "com/example/tidebook/tidebook/book/PriceLevels", name := "updateHeight", desc := "(I)V" } : Jvm.MethodName) prog_3_method_13_code (2 : Nat) (Option.none : Option Jvm.ClassFile.FieldType)).before args0 about1 = true := code_word (m := ⟨2, 10⟩) (meth := k2m10) (c := k2c10) (by decide +kernel) rfl rfl rfl (by decide +kernel)
set_option maxRecDepth 65536 in
theorem w_c10 : (Jvm.Cond.code ({ cls := "java/lang/Math", name := "max", desc := "(II)I" } : Jvm.MethodName) jdk_29_method_65_code (2 : Nat) (Option.some Jvm.ClassFile.FieldType.int)).before args0 about1 = true := code_word (m := ⟨9, 1⟩) (meth := k9m1) (c := k9c1) (by decide +kernel) rfl rfl rfl (by decide +kernel)
set_option maxRecDepth 65536 in
theorem w_c11 : (Jvm.Cond.code ({ cls := "com/example/tidebook/tidebook/book/PriceLevels", name := "clear", desc := "()V" } : Jvm.MethodName) prog_3_method_5_code (1 : Nat) (Option.none : Option Jvm.ClassFile.FieldType)).before args0 about1 = true := code_word (m := ⟨2, 4⟩) (meth := k2m4) (c := k2c4) (by decide +kernel) rfl rfl rfl (by decide +kernel)
set_option maxRecDepth 65536 in
theorem w_c12 : (Jvm.Cond.code ({ cls := "com/example/tidebook/tidebook/book/PriceLevels", name := "bestPrice", desc := "()J" } : Jvm.MethodName) prog_3_method_2_code (1 : Nat) (Option.some Jvm.ClassFile.FieldType.long)).before args0 about1 = true := code_word (m := ⟨2, 1⟩) (meth := k2m1) (c := k2c1) (by decide +kernel) rfl rfl rfl (by decide +kernel)
set_option maxRecDepth 65536 in
theorem w_c13 : (Jvm.Cond.code ({ cls := "com/example/tidebook/tidebook/book/PriceLevels", name := "bestSize", desc := "()J" } : Jvm.MethodName) prog_3_method_3_code (1 : Nat) (Option.some Jvm.ClassFile.FieldType.long)).before args0 about1 = true := code_word (m := ⟨2, 2⟩) (meth := k2m2) (c := k2c2) (by decide +kernel) rfl rfl rfl (by decide +kernel)
set_option maxRecDepth 65536 in
theorem w_c14 : (Jvm.Cond.code ({ cls := "com/example/tidebook/tidebook/book/PriceLevels", name := "levels", desc := "()Ljava/util/List;" } : Jvm.MethodName) prog_3_method_6_code (2 : Nat) (Option.some (Jvm.ClassFile.FieldType.object "java/util/List"))).before args0 about1 = true := code_word (m := ⟨2, 5⟩) (meth := k2m5) (c := k2c5) (by decide +kernel) rfl rfl rfl (by decide +kernel)
set_option maxRecDepth 65536 in
theorem w_c15 : (Jvm.Cond.code ({ cls := "java/util/ArrayList", name := "<init>", desc := "(I)V" } : Jvm.MethodName) jdk_38_method_1_code (2 : Nat) (Option.none : Option Jvm.ClassFile.FieldType)).before args0 about1 = true := code_word (m := ⟨18, 0⟩) (meth := k18m0) (c := k18c0) (by decide +kernel) rfl rfl rfl (by decide +kernel)
set_option maxRecDepth 65536 in
theorem w_c16 : (Jvm.Cond.code ({ cls := "java/util/AbstractList", name := "<init>", desc := "()V" } : Jvm.MethodName) jdk_39_method_1_code (1 : Nat) (Option.none : Option Jvm.ClassFile.FieldType)).before args0 about1 = true := code_word (m := ⟨15, 0⟩) (meth := k15m0) (c := k15c0) (by decide +kernel) rfl rfl rfl (by decide +kernel)
set_option maxRecDepth 65536 in
theorem w_c17 : (Jvm.Cond.code ({ cls := "java/util/AbstractCollection", name := "<init>", desc := "()V" } : Jvm.MethodName) jdk_22_method_1_code (1 : Nat) (Option.none : Option Jvm.ClassFile.FieldType)).before args0 about1 = true := code_word (m := ⟨12, 0⟩) (meth := k12m0) (c := k12c0) (by decide +kernel) rfl rfl rfl (by decide +kernel)
set_option maxRecDepth 65536 in
theorem w_c18 : (Jvm.Cond.code ({ cls := "com/example/tidebook/tidebook/book/PriceLevels", name := "collect", desc := "(ILjava/util/List;)V" } : Jvm.MethodName) prog_3_method_7_code (3 : Nat) (Option.none : Option Jvm.ClassFile.FieldType)).before args0 about1 = true := code_word (m := ⟨2, 6⟩) (meth := k2m6) (c := k2c6) (by decide +kernel) rfl rfl rfl (by decide +kernel)
set_option maxRecDepth 65536 in
theorem w_c19 : (Jvm.Cond.code ({ cls := "java/util/ArrayList", name := "size", desc := "()I" } : Jvm.MethodName) jdk_38_method_8_code (1 : Nat) (Option.some Jvm.ClassFile.FieldType.int)).before args0 about1 = true := code_word (m := ⟨18, 2⟩) (meth := k18m2) (c := k18c2) (by decide +kernel) rfl rfl rfl (by decide +kernel)
set_option maxRecDepth 65536 in
theorem w_c20 : (Jvm.Cond.code ({ cls := "com/example/tidebook/tidebook/model/PriceLevel", name := "<init>", desc := "(JJ)V" } : Jvm.MethodName) prog_52_method_1_code (5 : Nat) (Option.none : Option Jvm.ClassFile.FieldType)).before args0 about1 = true := code_word (m := ⟨20, 0⟩) (meth := k20m0) (c := k20c0) (by decide +kernel) rfl rfl rfl (by decide +kernel)
set_option maxRecDepth 65536 in
theorem w_c21 : (Jvm.Cond.code ({ cls := "java/lang/Record", name := "<init>", desc := "()V" } : Jvm.MethodName) jdk_30_method_1_code (1 : Nat) (Option.none : Option Jvm.ClassFile.FieldType)).before args0 about1 = true := code_word (m := ⟨19, 0⟩) (meth := k19m0) (c := k19c0) (by decide +kernel) rfl rfl rfl (by decide +kernel)
set_option maxRecDepth 65536 in
theorem w_c22 : (Jvm.Cond.code ({ cls := "java/util/ArrayList", name := "add", desc := "(Ljava/lang/Object;)Z" } : Jvm.MethodName) jdk_38_method_25_code (2 : Nat) (Option.some Jvm.ClassFile.FieldType.boolean)).before args0 about1 = true := code_word (m := ⟨18, 6⟩) (meth := k18m6) (c := k18c6) (by decide +kernel) rfl rfl rfl (by decide +kernel)
set_option maxRecDepth 65536 in
theorem w_c23 : (Jvm.Cond.code ({ cls := "java/util/ArrayList", name := "add", desc := "(Ljava/lang/Object;[Ljava/lang/Object;I)V" } : Jvm.MethodName) jdk_38_method_24_code (4 : Nat) (Option.none : Option Jvm.ClassFile.FieldType)).before args0 about1 = true := code_word (m := ⟨18, 5⟩) (meth := k18m5) (c := k18c5) (by decide +kernel) rfl rfl rfl (by decide +kernel)
set_option maxRecDepth 65536 in
theorem w_c24 : (Jvm.Cond.code ({ cls := "java/lang/Math", name := "min", desc := "(JJ)J" } : Jvm.MethodName) jdk_29_method_70_code (4 : Nat) (Option.some Jvm.ClassFile.FieldType.long)).before args0 about1 = true := code_word (m := ⟨9, 3⟩) (meth := k9m3) (c := k9c3) (by decide +kernel) rfl rfl rfl (by decide +kernel)
set_option maxRecDepth 65536 in
theorem w_c25 : (Jvm.Cond.code ({ cls := "java/util/ArrayList", name := "get", desc := "(I)Ljava/lang/Object;" } : Jvm.MethodName) jdk_38_method_20_code (2 : Nat) (Option.some (Jvm.ClassFile.FieldType.object "java/lang/Object"))).before args0 about1 = true := code_word (m := ⟨18, 4⟩) (meth := k18m4) (c := k18c4) (by decide +kernel) rfl rfl rfl (by decide +kernel)
set_option maxRecDepth 65536 in
theorem w_c26 : (Jvm.Cond.code ({ cls := "java/util/Objects", name := "checkIndex", desc := "(II)I" } : Jvm.MethodName) jdk_31_method_17_code (2 : Nat) (Option.some Jvm.ClassFile.FieldType.int)).before args0 about1 = true := code_word (m := ⟨21, 1⟩) (meth := k21m1) (c := k21c1) (by decide +kernel) rfl rfl rfl (by decide +kernel)
set_option maxRecDepth 65536 in
theorem w_c27 : (Jvm.Cond.code ({ cls := "jdk/internal/util/Preconditions", name := "checkIndex", desc := "(IILjava/util/function/BiFunction;)I" } : Jvm.MethodName) jdk_41_method_11_code (3 : Nat) (Option.some Jvm.ClassFile.FieldType.int)).before args0 about1 = true := code_word (m := ⟨22, 1⟩) (meth := k22m1) (c := k22c1) (by decide +kernel) rfl rfl rfl (by decide +kernel)
set_option maxRecDepth 65536 in
theorem w_c28 : (Jvm.Cond.code ({ cls := "java/util/ArrayList", name := "elementData", desc := "(I)Ljava/lang/Object;" } : Jvm.MethodName) jdk_38_method_18_code (2 : Nat) (Option.some (Jvm.ClassFile.FieldType.object "java/lang/Object"))).before args0 about1 = true := code_word (m := ⟨18, 3⟩) (meth := k18m3) (c := k18c3) (by decide +kernel) rfl rfl rfl (by decide +kernel)
set_option maxRecDepth 65536 in
theorem w_c29 : (Jvm.Cond.code ({ cls := "com/example/tidebook/tidebook/model/PriceLevel", name := "price", desc := "()J" } : Jvm.MethodName) prog_52_method_5_code (1 : Nat) (Option.some Jvm.ClassFile.FieldType.long)).before args0 about1 = true := code_word (m := ⟨20, 1⟩) (meth := k20m1) (c := k20c1) (by decide +kernel) rfl rfl rfl (by decide +kernel)
set_option maxRecDepth 65536 in
theorem w_c30 : (Jvm.Cond.code ({ cls := "com/example/tidebook/tidebook/model/PriceLevel", name := "size", desc := "()J" } : Jvm.MethodName) prog_52_method_6_code (1 : Nat) (Option.some Jvm.ClassFile.FieldType.long)).before args0 about1 = true := code_word (m := ⟨20, 2⟩) (meth := k20m2) (c := k20c2) (by decide +kernel) rfl rfl rfl (by decide +kernel)
set_option maxRecDepth 65536 in
theorem w_c31 : (Jvm.Cond.code ({ cls := "com/example/tidebook/tidebook/book/PriceLevels", name := "remove", desc := "(IJ)I" } : Jvm.MethodName) prog_3_method_9_code (6 : Nat) (Option.some Jvm.ClassFile.FieldType.int)).before args0 about1 = true := code_word (m := ⟨2, 8⟩) (meth := k2m8) (c := k2c8) (by decide +kernel) rfl rfl rfl (by decide +kernel)
set_option maxRecDepth 65536 in
theorem w_c32 : (Jvm.Cond.code ({ cls := "com/example/tidebook/tidebook/book/PriceLevels", name := "release", desc := "(I)V" } : Jvm.MethodName) prog_3_method_15_code (2 : Nat) (Option.none : Option Jvm.ClassFile.FieldType)).before args0 about1 = true := code_word (m := ⟨2, 12⟩) (meth := k2m12) (c := k2c12) (by decide +kernel) rfl rfl rfl (by decide +kernel)
set_option maxRecDepth 65536 in
theorem w_c33 : (Jvm.Cond.code ({ cls := "java/lang/Math", name := "max", desc := "(JJ)J" } : Jvm.MethodName) jdk_29_method_66_code (4 : Nat) (Option.some Jvm.ClassFile.FieldType.long)).before args0 about1 = true := code_word (m := ⟨9, 2⟩) (meth := k9m2) (c := k9c2) (by decide +kernel) rfl rfl rfl (by decide +kernel)
def codes1 : List Jvm.Cond := [Jvm.Cond.code x code maxLocals ret, Jvm.Cond.code ({ cls := "com/example/tidebook/tidebook/book/PriceLevels", name := "<init>", desc := "(Z)V" } : Jvm.MethodName) prog_3_method_1_code (2 : Nat) (Option.none : Option Jvm.ClassFile.FieldType), Jvm.Cond.code ({ cls := "java/lang/Object", name := "<init>", desc := "()V" } : Jvm.MethodName) object_method_1_code (1 : Nat) (Option.none : Option Jvm.ClassFile.FieldType), Jvm.Cond.code ({ cls := "com/example/tidebook/tidebook/book/PriceLevels", name := "set", desc := "(JJ)V" } : Jvm.MethodName) prog_3_method_4_code (5 : Nat) (Option.none : Option Jvm.ClassFile.FieldType), Jvm.Cond.code ({ cls := "com/example/tidebook/tidebook/book/PriceLevels", name := "insert", desc := "(IJJ)I" } : Jvm.MethodName) prog_3_method_8_code (7 : Nat) (Option.some Jvm.ClassFile.FieldType.int), Jvm.Cond.code ({ cls := "com/example/tidebook/tidebook/book/PriceLevels", name := "take", desc := "(JJ)I" } : Jvm.MethodName) prog_3_method_14_code (6 : Nat) (Option.some Jvm.ClassFile.FieldType.int), Jvm.Cond.code ({ cls := "com/example/tidebook/tidebook/book/PriceLevels", name := "compare", desc := "(JJ)I" } : Jvm.MethodName) prog_3_method_18_code (5 : Nat) (Option.some Jvm.ClassFile.FieldType.int), Jvm.Cond.code ({ cls := "java/lang/Long", name := "compare", desc := "(JJ)I" } : Jvm.MethodName) jdk_35_method_42_code (4 : Nat) (Option.some Jvm.ClassFile.FieldType.int), Jvm.Cond.code ({ cls := "com/example/tidebook/tidebook/book/PriceLevels", name := "balance", desc := "(I)I" } : Jvm.MethodName) prog_3_method_10_code (3 : Nat) (Option.some Jvm.ClassFile.FieldType.int), Jvm.Cond.code ({ cls := "com/example/tidebook/tidebook/book/PriceLevels", name := "updateHeight", desc := "(I)V" } : Jvm.MethodName) prog_3_method_13_code (2 : Nat) (Option.none : Option Jvm.ClassFile.FieldType), Jvm.Cond.code ({ cls := "java/lang/Math", name := "max", desc := "(II)I" } : Jvm.MethodName) jdk_29_method_65_code (2 : Nat) (Option.some Jvm.ClassFile.FieldType.int), Jvm.Cond.code ({ cls := "com/example/tidebook/tidebook/book/PriceLevels", name := "clear", desc := "()V" } : Jvm.MethodName) prog_3_method_5_code (1 : Nat) (Option.none : Option Jvm.ClassFile.FieldType), Jvm.Cond.code ({ cls := "com/example/tidebook/tidebook/book/PriceLevels", name := "bestPrice", desc := "()J" } : Jvm.MethodName) prog_3_method_2_code (1 : Nat) (Option.some Jvm.ClassFile.FieldType.long), Jvm.Cond.code ({ cls := "com/example/tidebook/tidebook/book/PriceLevels", name := "bestSize", desc := "()J" } : Jvm.MethodName) prog_3_method_3_code (1 : Nat) (Option.some Jvm.ClassFile.FieldType.long), Jvm.Cond.code ({ cls := "com/example/tidebook/tidebook/book/PriceLevels", name := "levels", desc := "()Ljava/util/List;" } : Jvm.MethodName) prog_3_method_6_code (2 : Nat) (Option.some (Jvm.ClassFile.FieldType.object "java/util/List")), Jvm.Cond.code ({ cls := "java/util/ArrayList", name := "<init>", desc := "(I)V" } : Jvm.MethodName) jdk_38_method_1_code (2 : Nat) (Option.none : Option Jvm.ClassFile.FieldType), Jvm.Cond.code ({ cls := "java/util/AbstractList", name := "<init>", desc := "()V" } : Jvm.MethodName) jdk_39_method_1_code (1 : Nat) (Option.none : Option Jvm.ClassFile.FieldType), Jvm.Cond.code ({ cls := "java/util/AbstractCollection", name := "<init>", desc := "()V" } : Jvm.MethodName) jdk_22_method_1_code (1 : Nat) (Option.none : Option Jvm.ClassFile.FieldType), Jvm.Cond.code ({ cls := "com/example/tidebook/tidebook/book/PriceLevels", name := "collect", desc := "(ILjava/util/List;)V" } : Jvm.MethodName) prog_3_method_7_code (3 : Nat) (Option.none : Option Jvm.ClassFile.FieldType), Jvm.Cond.code ({ cls := "java/util/ArrayList", name := "size", desc := "()I" } : Jvm.MethodName) jdk_38_method_8_code (1 : Nat) (Option.some Jvm.ClassFile.FieldType.int), Jvm.Cond.code ({ cls := "com/example/tidebook/tidebook/model/PriceLevel", name := "<init>", desc := "(JJ)V" } : Jvm.MethodName) prog_52_method_1_code (5 : Nat) (Option.none : Option Jvm.ClassFile.FieldType), Jvm.Cond.code ({ cls := "java/lang/Record", name := "<init>", desc := "()V" } : Jvm.MethodName) jdk_30_method_1_code (1 : Nat) (Option.none : Option Jvm.ClassFile.FieldType), Jvm.Cond.code ({ cls := "java/util/ArrayList", name := "add", desc := "(Ljava/lang/Object;)Z" } : Jvm.MethodName) jdk_38_method_25_code (2 : Nat) (Option.some Jvm.ClassFile.FieldType.boolean), Jvm.Cond.code ({ cls := "java/util/ArrayList", name := "add", desc := "(Ljava/lang/Object;[Ljava/lang/Object;I)V" } : Jvm.MethodName) jdk_38_method_24_code (4 : Nat) (Option.none : Option Jvm.ClassFile.FieldType), Jvm.Cond.code ({ cls := "java/lang/Math", name := "min", desc := "(JJ)J" } : Jvm.MethodName) jdk_29_method_70_code (4 : Nat) (Option.some Jvm.ClassFile.FieldType.long), Jvm.Cond.code ({ cls := "java/util/ArrayList", name := "get", desc := "(I)Ljava/lang/Object;" } : Jvm.MethodName) jdk_38_method_20_code (2 : Nat) (Option.some (Jvm.ClassFile.FieldType.object "java/lang/Object")), Jvm.Cond.code ({ cls := "java/util/Objects", name := "checkIndex", desc := "(II)I" } : Jvm.MethodName) jdk_31_method_17_code (2 : Nat) (Option.some Jvm.ClassFile.FieldType.int), Jvm.Cond.code ({ cls := "jdk/internal/util/Preconditions", name := "checkIndex", desc := "(IILjava/util/function/BiFunction;)I" } : Jvm.MethodName) jdk_41_method_11_code (3 : Nat) (Option.some Jvm.ClassFile.FieldType.int), Jvm.Cond.code ({ cls := "java/util/ArrayList", name := "elementData", desc := "(I)Ljava/lang/Object;" } : Jvm.MethodName) jdk_38_method_18_code (2 : Nat) (Option.some (Jvm.ClassFile.FieldType.object "java/lang/Object")), Jvm.Cond.code ({ cls := "com/example/tidebook/tidebook/model/PriceLevel", name := "price", desc := "()J" } : Jvm.MethodName) prog_52_method_5_code (1 : Nat) (Option.some Jvm.ClassFile.FieldType.long), Jvm.Cond.code ({ cls := "com/example/tidebook/tidebook/model/PriceLevel", name := "size", desc := "()J" } : Jvm.MethodName) prog_52_method_6_code (1 : Nat) (Option.some Jvm.ClassFile.FieldType.long), Jvm.Cond.code ({ cls := "com/example/tidebook/tidebook/book/PriceLevels", name := "remove", desc := "(IJ)I" } : Jvm.MethodName) prog_3_method_9_code (6 : Nat) (Option.some Jvm.ClassFile.FieldType.int), Jvm.Cond.code ({ cls := "com/example/tidebook/tidebook/book/PriceLevels", name := "release", desc := "(I)V" } : Jvm.MethodName) prog_3_method_15_code (2 : Nat) (Option.none : Option Jvm.ClassFile.FieldType), Jvm.Cond.code ({ cls := "java/lang/Math", name := "max", desc := "(JJ)J" } : Jvm.MethodName) jdk_29_method_66_code (4 : Nat) (Option.some Jvm.ClassFile.FieldType.long)]
set_option maxRecDepth 65536 in
theorem codes_eq : words1.filter isCode = codes1 := rfl
theorem w_codes : ∀ c ∈ words1.filter isCode, c.before args0 about1 = true := by
  rw [codes_eq]
  intro c hc
  simp only [codes1, List.mem_cons, List.not_mem_nil, or_false] at hc
  rcases hc with rfl | rfl | rfl | rfl | rfl | rfl | rfl | rfl | rfl | rfl | rfl | rfl | rfl | rfl | rfl | rfl | rfl | rfl | rfl | rfl | rfl | rfl | rfl | rfl | rfl | rfl | rfl | rfl | rfl | rfl | rfl | rfl | rfl | rfl
  · exact w_c0
  · exact w_c1
  · exact w_c2
  · exact w_c3
  · exact w_c4
  · exact w_c5
  · exact w_c6
  · exact w_c7
  · exact w_c8
  · exact w_c9
  · exact w_c10
  · exact w_c11
  · exact w_c12
  · exact w_c13
  · exact w_c14
  · exact w_c15
  · exact w_c16
  · exact w_c17
  · exact w_c18
  · exact w_c19
  · exact w_c20
  · exact w_c21
  · exact w_c22
  · exact w_c23
  · exact w_c24
  · exact w_c25
  · exact w_c26
  · exact w_c27
  · exact w_c28
  · exact w_c29
  · exact w_c30
  · exact w_c31
  · exact w_c32
  · exact w_c33
set_option maxRecDepth 65536 in
theorem w_t1 : (words1.take 24).all (fun c => isCode c || c.before args0 about1) = true := by decide +kernel
set_option maxRecDepth 65536 in
theorem w_t2 : ((words1.drop 24).take 24).all (fun c => isCode c || c.before args0 about1) = true := by decide +kernel
set_option maxRecDepth 65536 in
theorem w_t3 : (((words1.drop 24).drop 24).take 24).all (fun c => isCode c || c.before args0 about1) = true := by decide +kernel
set_option maxRecDepth 65536 in
theorem w_t4 : ((((words1.drop 24).drop 24).drop 24).take 24).all (fun c => isCode c || c.before args0 about1) = true := by decide +kernel
set_option maxRecDepth 65536 in
theorem w_t5 : (((((words1.drop 24).drop 24).drop 24).drop 24).take 24).all (fun c => isCode c || c.before args0 about1) = true := by decide +kernel
set_option maxRecDepth 65536 in
theorem w_t6 : ((((((words1.drop 24).drop 24).drop 24).drop 24).drop 24).take 24).all (fun c => isCode c || c.before args0 about1) = true := by decide +kernel
set_option maxRecDepth 65536 in
theorem w_t7 : (((((((words1.drop 24).drop 24).drop 24).drop 24).drop 24).drop 24).take 24).all (fun c => isCode c || c.before args0 about1) = true := by decide +kernel
set_option maxRecDepth 65536 in
theorem w_t8 : ((((((((words1.drop 24).drop 24).drop 24).drop 24).drop 24).drop 24).drop 24).take 24).all (fun c => isCode c || c.before args0 about1) = true := by decide +kernel
set_option maxRecDepth 65536 in
theorem w_t9 : ((((((((words1.drop 24).drop 24).drop 24).drop 24).drop 24).drop 24).drop 24).drop 24).all (fun c => isCode c || c.before args0 about1) = true := by decide +kernel
theorem w_tables : (allAtoms (Jvm.Cond.code x code maxLocals ret :: tables_1)).before args0 about1 = true := by
  rw [allAtoms_all]
  show words1.all (fun c => c.before args0 about1) = true
  refine all_split ?_ w_codes
  rw [← List.take_append_drop 24 words1, List.all_append, w_t1, ← List.take_append_drop 24 (words1.drop 24), List.all_append, w_t2, ← List.take_append_drop 24 ((words1.drop 24).drop 24), List.all_append, w_t3, ← List.take_append_drop 24 (((words1.drop 24).drop 24).drop 24), List.all_append, w_t4, ← List.take_append_drop 24 ((((words1.drop 24).drop 24).drop 24).drop 24), List.all_append, w_t5, ← List.take_append_drop 24 (((((words1.drop 24).drop 24).drop 24).drop 24).drop 24), List.all_append, w_t6, ← List.take_append_drop 24 ((((((words1.drop 24).drop 24).drop 24).drop 24).drop 24).drop 24), List.all_append, w_t7, ← List.take_append_drop 24 (((((((words1.drop 24).drop 24).drop 24).drop 24).drop 24).drop 24).drop 24), List.all_append, w_t8, w_t9]
  rfl
set_option maxRecDepth 65536 in
theorem w_rest : rest_1_c.before args0 about1 = true := by decide +kernel
set_option maxRecDepth 65536 in
theorem w_case : (Jvm.Cond.and given_1 narrow_1).before args0 about1 = true := by decide +kernel
theorem w_applies : (headSpec (Jvm.Cond.code x code maxLocals ret :: tables_1) room_1).applies x e0.platform about1 = true :=
  (Spec.applies_iff w_frames).mpr ⟨w_running, w_runnable, w_alone, w_named, w_hears, w_ripe, w_room, w_tables⟩
theorem atStart : AtStart classFile x code maxLocals ret World_1 tables_1 room_1 Calls_1 rest_1 Pre_1 launch0 p0 e0 about1 theMethod args0 below0 :=
  ⟨lists_1, trivial, launch0.admits_env _ _ _, launch0.least_env, fairChoices_fair.cas, fairChoices_fair.clock, w_frames, w_args, w_heap, w_applies, trivial, w_rest, w_case⟩
end start1
theorem witness_1 : WitnessClaimed_1 := ⟨start1.p0, start1.e0, start1.about1, start1.theMethod, start1.args0, start1.below0, start1.atStart⟩
end Jvm.Pilot.@@N@@
