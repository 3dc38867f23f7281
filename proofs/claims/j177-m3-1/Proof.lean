import JvmDerived
import JvmDerived.Pilot.@@N@@Statement
import JvmDerived.Pilot.@@N@@Code
set_option linter.unusedVariables false
set_option linter.unusedSimpArgs false
namespace Jvm.Pilot.@@N@@
open Jvm Jvm.ClassFile Sem Op Lib Jvm.Free Jvm.Stand Jvm.LawKit Jvm.RoadKit Bundle Jvm.Pilot.@@N@@.Jvm.D
section OwnKit
abbrev oU : Slot := .unset
abbrev oS : Slot := .second
abbrev oJ (x : Int64) : Slot := .val (.long x)
abbrev oD (x : UInt64) : Slot := .val (.double x)
variable {p : Program} {l : Launch} {e : Env} {R : Room} {s : State} {m : MethodId} {args : Array Value} {below : List Frame} {meth : Method} {c : Code} {T A B : State} {locs : List Loc} {cells slots : Nat} {G : State → Outcome → Prop} {Q : Option Value → Heap → List Loc → Prop} {C S : Nat} {pc : Nat} {Ls : Array Slot} {rest : List Value}
/-- from A the run ends, and what it leaves is G -/
def own_Go (p : Program) (e : Env) (below : List Frame) (G : State → Outcome → Prop) (A : State) : Prop := ∃ u o, Steps p.tables e below A u ∧ u.status = .running ∧ Ended u below o ∧ G u o
def own_Post (s : State) (Q : Option Value → Heap → List Loc → Prop) (C S : Nat) : State → Outcome → Prop := fun u o => ∃ v L, o = .returned v ∧ Q v u.heap L ∧ FrameEnd s o u L C S
def own_PostW (s : State) (Q : Option Value → Heap → List Loc → Prop) (C S : Nat) : State → Outcome → Prop := fun u o => ∃ v L, o = .returned v ∧ Q v u.heap L ∧ ReturnedEndW s o u L C S
theorem own_by (k : ∀ t, Steps p.tables e below B t → Steps p.tables e below A t) (h : own_Go p e below G B) : own_Go p e below G A := by
  obtain ⟨u, o, h1, h2⟩ := h
  exact ⟨u, o, k _ h1, h2⟩
theorem own_tr (k : Steps p.tables e below A B) (h : own_Go p e below G B) : own_Go p e below G A := by
  obtain ⟨u, o, h1, h2⟩ := h
  exact ⟨u, o, k.trans h1, h2⟩
theorem own_retI (X : Stand p l e R s m args below meth c T locs cells slots) (hlk : meth.locks = false) (hx : p.tables.exec = Jvm.exec) (hret : meth.sig.returnType = some .int) {z : Int32} (hd : decode c.code pc = .ok (.ireturn, 1)) (hq : Q (some (.int z)) T.heap locs) (hC : cells ≤ C) (hS : slots ≤ S) :
    own_Go p e below (own_Post s Q C S) (T.setTop (mkF m pc Ls (.int z :: rest))) := by
  obtain ⟨fs, hr, hrun, hended, hW, hsame⟩ := X.leave (v := some (.int z)) (fun h => by rw [hret] at h; cases h) hlk
  have hm' : T.vm.method? m = some meth := X.method'
  have hn : narrow .int (.int z) = .int z := rfl
  refine ⟨_, _, ?_, hrun, hended, _, _, rfl, hq, ⟨_, rfl⟩, hW, hsame.mono hC hS⟩
  show Steps p.tables e below (T.setTop { method := m, pc := pc, locals := Ls, stack := _ :: rest, locked := none }) _
  jvm_step X.here [X.here.top, hx, hd, hm', hret, hn]
  first | (intro acts; rw [hr _ acts rfl rfl rfl]) | rw [hr _ _ rfl rfl rfl]
  exact Steps.refl _
theorem own_retN (X : Stand p l e R s m args below meth c T locs cells slots) (hlk : meth.locks = false) (hx : p.tables.exec = Jvm.exec) {t : FieldType} (hret : meth.sig.returnType = some t) (ht : t = .boolean ∨ t = .byte ∨ t = .char ∨ t = .short) {z : Int32} (hd : decode c.code pc = .ok (.ireturn, 1)) (hq : Q (some (.int (nar t z))) T.heap locs) (hC : cells ≤ C) (hS : slots ≤ S) :
    own_Go p e below (own_Post s Q C S) (T.setTop (mkF m pc Ls (.int z :: rest))) := by
  obtain ⟨fs, hr, hrun, hended, hW, hsame⟩ := X.leave (v := some (.int (nar t z))) (fun h => by rw [hret] at h; cases h) hlk
  exact ⟨_, _, retN X hx hret ht hd hr, hrun, hended, _, _, rfl, hq, ⟨_, rfl⟩, hW, hsame.mono hC hS⟩
theorem own_retNW {vm₁ : Vm} (X : Stand p l e R (s.setVm vm₁) m args below meth c T locs cells slots) (hlk : meth.locks = false) (hx : p.tables.exec = Jvm.exec) {t : FieldType} (hret : meth.sig.returnType = some t) (ht : t = .boolean ∨ t = .byte ∨ t = .char ∨ t = .short) {z : Int32} (hd : decode c.code pc = .ok (.ireturn, 1)) {n : Nat} (hSi : s.Since vm₁ n) (hn : n ≤ T.heap.size) (hq : Q (some (.int (nar t z))) T.heap locs) (hC : cells ≤ C) (hS : slots ≤ S) :
    own_Go p e below (own_PostW s Q C S) (T.setTop (mkF m pc Ls (.int z :: rest))) := by
  obtain ⟨fs, hr, hrun, hended, h1, h2, h3, h4⟩ := X.leaveW hSi hn (v := some (.int (nar t z))) (fun h => by rw [hret] at h; cases h) hlk
  exact ⟨_, _, retN X hx hret ht hd hr, hrun, hended, _, _, rfl, hq, h1, h2, h3, h4.mono hC hS⟩
theorem own_retL (X : Stand p l e R s m args below meth c T locs cells slots) (hlk : meth.locks = false) (hx : p.tables.exec = Jvm.exec) (hret : meth.sig.returnType = some .long) {z : Int64} (hd : decode c.code pc = .ok (.lreturn, 1)) (hq : Q (some (.long z)) T.heap locs) (hC : cells ≤ C) (hS : slots ≤ S) :
    own_Go p e below (own_Post s Q C S) (T.setTop (mkF m pc Ls [.long z])) := by
  obtain ⟨fs, hr, hrun, hended, hW, hsame⟩ := X.leave (v := some (.long z)) (fun h => by rw [hret] at h; cases h) hlk
  exact ⟨_, _, retOut X hx (t := .long) (i := .lreturn) hret rfl (Or.inr (Or.inl ⟨rfl, rfl, _, rfl⟩)) hd hr, hrun, hended, _, _, rfl, hq, ⟨_, rfl⟩, hW, hsame.mono hC hS⟩
theorem own_retD (X : Stand p l e R s m args below meth c T locs cells slots) (hlk : meth.locks = false) (hx : p.tables.exec = Jvm.exec) (hret : meth.sig.returnType = some .double) {z : UInt64} (hd : decode c.code pc = .ok (.dreturn, 1)) (hq : Q (some (.double z)) T.heap locs) (hC : cells ≤ C) (hS : slots ≤ S) :
    own_Go p e below (own_Post s Q C S) (T.setTop (mkF m pc Ls [.double z])) := by
  obtain ⟨fs, hr, hrun, hended, hW, hsame⟩ := X.leave (v := some (.double z)) (fun h => by rw [hret] at h; cases h) hlk
  exact ⟨_, _, retOut X hx (t := .double) (i := .dreturn) hret rfl (Or.inr (Or.inr (Or.inl ⟨rfl, rfl, _, rfl⟩))) hd hr, hrun, hended, _, _, rfl, hq, ⟨_, rfl⟩, hW, hsame.mono hC hS⟩
theorem own_retR (X : Stand p l e R s m args below meth c T locs cells slots) (hlk : meth.locks = false) (hx : p.tables.exec = Jvm.exec) {t : FieldType} (hret : meth.sig.returnType = some t) {w : Value} (ht : t.isReference = true) (hn : narrow t w = w) (hw : w.isRef = true) (hd : decode c.code pc = .ok (.areturn, 1)) (hq : Q (some w) T.heap locs) (hC : cells ≤ C) (hS : slots ≤ S) :
    own_Go p e below (own_Post s Q C S) (T.setTop (mkF m pc Ls (w :: rest))) := by
  obtain ⟨fs, hr, hrun, hended, hW, hsame⟩ := X.leave (v := some w) (fun h => by rw [hret] at h; cases h) hlk
  exact ⟨_, _, retOut X hx (t := t) (i := .areturn) hret hn (Or.inr (Or.inr (Or.inr (Or.inr ⟨rfl, ht, hw⟩)))) hd hr, hrun, hended, _, _, rfl, hq, ⟨_, rfl⟩, hW, hsame.mono hC hS⟩
theorem own_retV (X : Stand p l e R s m args below meth c T locs cells slots) (hlk : meth.locks = false) (hx : p.tables.exec = Jvm.exec) (hret : meth.sig.returnType = none) (hd : decode c.code pc = .ok (.return_, 1)) (hq : Q none T.heap locs) (hC : cells ≤ C) (hS : slots ≤ S) :
    own_Go p e below (own_Post s Q C S) (T.setTop (mkF m pc Ls [])) := by
  obtain ⟨fs, hr, hrun, hended, hW, hsame⟩ := X.leave (v := none) (fun _ => rfl) hlk
  exact ⟨_, _, X.returnOut hx hret hd hr, hrun, hended, _, _, rfl, hq, ⟨_, rfl⟩, hW, hsame.mono hC hS⟩
theorem own_nev {Z : State} {h : Heap} {a b : Addr} {C : String} {a0 : Array Value} {n : Nat} {k : ClassId} {ty : FieldType} {z : Int32} {vs : List Value} {dv : Value} (E : Exa Z h a C) (wi : (Jvm.Cond.instantiable C n).before a0 Z = true) (F : Arv Z h b k ty z vs dv) : a ≠ b := by
  obtain ⟨c, A, -⟩ := F
  exact ne_arr E wi A
theorem own_selp {args' : Array Value} {y : MethodName} {n : Nat} (hins : (Jvm.Cond.instantiable y.cls n).before args' s = true) (hpriv : (Jvm.Cond.privateMethod y).before args' s = true) (hinst : (Jvm.Cond.instanceMethod y).before args' s = true) (hy : y.cls ≠ "java/lang/invoke/MethodHandle" ∧ y.cls ≠ "java/lang/invoke/VarHandle") : (Jvm.Cond.selects y.cls y y).before args' s = true := by
  obtain ⟨c, k, hc, hk, -, hniab, -, -⟩ := Cond.instantiable_spec hins
  exact selects_self_of_private hc hk (Bool.or_eq_false_iff.mp hniab).1 (Cond.privateMethod_at hpriv) hinst hy
theorem own_callS (X : Stand p l e R s m args below meth c T locs cells slots) (hx : p.tables.exec = Jvm.exec) {Z : State} {a0 : Array Value} {h : Heap} (hZ : Z.Warmed39 s.vm) {own : String} {index : Nat} {y : MethodName} (hown : s.vm.findClass own = some m.cls) {bytes : ByteArray} {maxL : Nat} {ret : Option FieldType} {rm : Room} {as' : Array Value} {Q : Option Value → Heap → List Loc → Prop} (w1 : (Jvm.Cond.methodLink own index y).before a0 Z = true) (w2 : (Jvm.Cond.static y).before a0 Z = true) (w3 : (Jvm.Cond.initialized y.cls).before a0 Z = true) (w4 : (Jvm.Cond.code y bytes maxL ret).before a0 Z = true) (hy : y.cls ≠ "java/lang/invoke/MethodHandle" ∧ y.cls ≠ "java/lang/invoke/VarHandle")
    (hM : MetFree l y (head1 [Jvm.Cond.code y bytes maxL ret] rm) (fun a U => a = as' ∧ Z.Warmed39 U.vm ∧ U.heap = h) (fun _ _ _ _ _ => True) (fun _ U o U' => ∃ v L, o = .returned v ∧ Q v U'.heap L ∧ FrameEnd U o U' L rm.cells rm.slots)) (eT : T.heap = h) (W : Nat) {g : JFrame} (hg : g.method = m) {ml : Nat} (hml : c.maxLocals = ml) (argsL rest : List Value) (ha : argsL.toArray = as') (hlen : ∀ sig, parseMethodDescriptor y.desc = some sig → argsL.length = sig.parameters.length) (hstack : g.stack = argsL.reverse ++ rest) (hd : decode c.code g.pc = .ok (.invokestatic index, 3)) (hf : rm.frames + 1 ≤ R.frames := by decide) (hl : W + (maxL + 11) + rm.locals ≤ R.locals := by decide) (hc : cells + rm.cells ≤ R.cells := by decide) (hs : slots + rm.slots ≤ R.slots := by decide) (hW : 2 * g.monitorRoom + (rest.map fun v => v.category).sum ≤ W := by show 2 * 0 + _ ≤ _; exact Nat.le_of_eq rfl) (hsz : g.locals.size = ml := by rfl) :
    ∃ (T' : State) (L : List Loc) (v : Option Value), Stand p l e R s m args below meth c T' (locs ++ L) (cells + rm.cells) (slots + rm.slots) ∧ Q v T'.heap L ∧ ∀ t, Steps p.tables e below (T'.setTop { g with pc := g.pc + 3, stack := v.toList ++ rest }) t → Steps p.tables e below (T.setTop g) t := by
  obtain ⟨v, _, ⟨T', L', k', n'⟩, -, X', ⟨L, hQ, h2, h3, h4⟩, st⟩ := Jvm.LawKit.callS X hx (y := y) hown (mvT hZ w1) (mvT hZ w2) (mvT hZ w3) (mvT hZ w4) hy (backOf (W := W) hM hZ w4 w3 hf hl) (g := g) hg (hsz.trans hml.symm) (argsL := argsL) (rest := rest) hlen hstack hW hd (fun _ _ => ⟨ha, eT, hc, hs⟩)
  dsimp only [Pt.U, Pt.locs, Pt.cells, Pt.slots] at X' h2 h3 h4 st hQ
  subst h2 h3 h4
  exact ⟨T', L, v, X', hQ, st⟩
theorem own_callI (X : Stand p l e R s m args below meth c T locs cells slots) (hx : p.tables.exec = Jvm.exec) {Z : State} {a0 : Array Value} {h : Heap} (hZ : Z.Warmed39 s.vm) {own : String} {index : Nat} {y : MethodName} (hy1 : y.name = "<init>") (hown : s.vm.findClass own = some m.cls) {bytes : ByteArray} {maxL : Nat} {rm : Room} {as' : Array Value} {Q : Option Value → Heap → List Loc → Prop} (w1 : (Jvm.Cond.methodLink own index y).before a0 Z = true) (w2 : (Jvm.Cond.instanceMethod y).before a0 Z = true) (w3 : (Jvm.Cond.initialized y.cls).before a0 Z = true) (w4 : (Jvm.Cond.code y bytes maxL none).before a0 Z = true) (hy : y.cls ≠ "java/lang/invoke/MethodHandle" ∧ y.cls ≠ "java/lang/invoke/VarHandle")
    (hM : MetFree l y (head1 [Jvm.Cond.code y bytes maxL none] rm) (fun a U => a = as' ∧ Z.Warmed39 U.vm ∧ U.heap = h) (fun _ _ _ _ _ => True) (fun _ U o U' => ∃ v L, o = .returned v ∧ Q v U'.heap L ∧ FrameEnd U o U' L rm.cells rm.slots)) (eT : T.heap = h) (W : Nat) {g : JFrame} (hg : g.method = m) {ml : Nat} (hml : c.maxLocals = ml) (a : Addr) (argsL rest : List Value) (ha : (.ref a :: argsL).toArray = as') (hlen : ∀ sig, parseMethodDescriptor y.desc = some sig → argsL.length = sig.parameters.length) (hstack : g.stack = argsL.reverse ++ .ref a :: rest) (hd : decode c.code g.pc = .ok (.invokespecial index, 3)) (hf : rm.frames + 1 ≤ R.frames := by decide) (hl : W + (maxL + 11) + rm.locals ≤ R.locals := by decide) (hc : cells + rm.cells ≤ R.cells := by decide) (hs : slots + rm.slots ≤ R.slots := by decide) (hW : 2 * g.monitorRoom + (rest.map fun v => v.category).sum ≤ W := by show 2 * 0 + _ ≤ _; exact Nat.le_of_eq rfl) (hsz : g.locals.size = ml := by rfl) :
    ∃ (T' : State) (L : List Loc) (v : Option Value), Stand p l e R s m args below meth c T' (locs ++ L) (cells + rm.cells) (slots + rm.slots) ∧ Q v T'.heap L ∧ ∀ t, Steps p.tables e below (T'.setTop { g with pc := g.pc + 3, stack := v.toList ++ rest }) t → Steps p.tables e below (T.setTop g) t := by
  obtain ⟨v, _, ⟨T', L', k', n'⟩, -, X', ⟨L, hQ, h2, h3, h4⟩, st⟩ := X.specialBack hx (y := y) hy1 hown (mvT hZ w1) (mvT hZ w2) (mvT hZ w4) hy (backOf (W := W) hM hZ w4 w3 hf hl) (g := g) hg (hsz.trans hml.symm) (Steps.refl _) (a := a) (argsL := argsL) (rest := rest) hlen hstack hW hd (fun _ _ => ⟨ha, eT, hc, hs⟩)
  dsimp only [Pt.U, Pt.locs, Pt.cells, Pt.slots] at X' h2 h3 h4 st hQ
  subst h2 h3 h4
  exact ⟨T', L, v, X', hQ, fun t k => st.trans k⟩
theorem own_callP (X : Stand p l e R s m args below meth c T locs cells slots) (hx : p.tables.exec = Jvm.exec) {Z : State} {a0 : Array Value} {h : Heap} (hZ : Z.Warmed39 s.vm) {own C : String} {index n : Nat} {y : MethodName} (hown : s.vm.findClass own = some m.cls) {bytes : ByteArray} {maxL : Nat} {ret : Option FieldType} {rm : Room} {as' : Array Value} {Q : Option Value → Heap → List Loc → Prop} (w1 : (Jvm.Cond.methodLink own index y).before a0 Z = true) (w2 : (Jvm.Cond.instanceMethod y).before a0 Z = true) (w3 : (Jvm.Cond.initialized y.cls).before a0 Z = true) (w4 : (Jvm.Cond.code y bytes maxL ret).before a0 Z = true) (w5 : (Jvm.Cond.privateMethod y).before a0 Z = true) (w6 : (Jvm.Cond.instantiable y.cls n).before a0 Z = true) (hy : y.cls ≠ "java/lang/invoke/MethodHandle" ∧ y.cls ≠ "java/lang/invoke/VarHandle")
    (hM : MetFree l y (head1 [Jvm.Cond.code y bytes maxL ret] rm) (fun a U => a = as' ∧ Z.Warmed39 U.vm ∧ U.heap = h) (fun _ _ _ _ _ => True) (fun _ U o U' => ∃ v L, o = .returned v ∧ Q v U'.heap L ∧ FrameEnd U o U' L rm.cells rm.slots)) (eT : T.heap = h) (W : Nat) {g : JFrame} (hg : g.method = m) {ml : Nat} (hml : c.maxLocals = ml) (a : Addr) (E : Exa Z h a C) (argsL rest : List Value) (ha : (.ref a :: argsL).toArray = as') (hlen : ∀ sig, parseMethodDescriptor y.desc = some sig → argsL.length = sig.parameters.length) (hstack : g.stack = argsL.reverse ++ .ref a :: rest) (hd : decode c.code g.pc = .ok (.invokevirtual index, 3)) (hf : rm.frames + 1 ≤ R.frames := by decide) (hl : W + (maxL + 11) + rm.locals ≤ R.locals := by decide) (hc : cells + rm.cells ≤ R.cells := by decide) (hs : slots + rm.slots ≤ R.slots := by decide) (hW : 2 * g.monitorRoom + (rest.map fun v => v.category).sum ≤ W := by show 2 * 0 + _ ≤ _; exact Nat.le_of_eq rfl) (hsz : g.locals.size = ml := by rfl) :
    ∃ (T' : State) (L : List Loc) (v : Option Value), Stand p l e R s m args below meth c T' (locs ++ L) (cells + rm.cells) (slots + rm.slots) ∧ Q v T'.heap L ∧ ∀ t, Steps p.tables e below (T'.setTop { g with pc := g.pc + 3, stack := v.toList ++ rest }) t → Steps p.tables e below (T.setTop g) t := by
  obtain ⟨cq, q1, q2⟩ := E.cell
  obtain ⟨v, _, ⟨T', L', k', n'⟩, -, X', ⟨L, hQ, h2, h3, h4⟩, st⟩ := X.privateBack hx (y := y) hown (mvT hZ w1) (mvT hZ w2) (own_selp (y := y) (mvT hZ w6) (mvP hZ w5) (mvT hZ w2) hy) (Cond.privateMethod_at (mvP hZ w5 (args := #[]))) (mvT hZ w4) hy (backOf (W := W) hM hZ w4 w3 hf hl) (g := g) hg (hsz.trans hml.symm) (Steps.refl _) (a := a) (by rw [eT]; exact q1) q2 (argsL := argsL) (rest := rest) hlen hstack hW hd (fun _ _ => ⟨ha, eT, hc, hs⟩)
  dsimp only [Pt.U, Pt.locs, Pt.cells, Pt.slots] at X' h2 h3 h4 st hQ
  subst h2 h3 h4
  exact ⟨T', L, v, X', hQ, fun t k => st.trans k⟩
theorem own_callV (X : Stand p l e R s m args below meth c T locs cells slots) (hx : p.tables.exec = Jvm.exec) {Z : State} {a0 : Array Value} {h : Heap} (hZ : Z.Warmed39 s.vm) {own C : String} {index : Nat} {y z : MethodName} (hown : s.vm.findClass own = some m.cls) {bytes : ByteArray} {maxL : Nat} {ret : Option FieldType} {rm : Room} {as' : Array Value} {Q : Option Value → Heap → List Loc → Prop} (w1 : (Jvm.Cond.methodLink own index y).before a0 Z = true) (w2 : (Jvm.Cond.declares y).before a0 Z = true) (hnf : NotFace s y) (w3 : (Jvm.Cond.selects C y z).before a0 Z = true) (w4 : (Jvm.Cond.instanceMethod z).before a0 Z = true) (w5 : (Jvm.Cond.initialized z.cls).before a0 Z = true) (w6 : (Jvm.Cond.code z bytes maxL ret).before a0 Z = true) (hy : y.cls ≠ "java/lang/invoke/MethodHandle" ∧ y.cls ≠ "java/lang/invoke/VarHandle")
    (hM : MetFree l z (head1 [Jvm.Cond.code z bytes maxL ret] rm) (fun a U => a = as' ∧ Z.Warmed39 U.vm ∧ U.heap = h) (fun _ _ _ _ _ => True) (fun _ U o U' => ∃ v L, o = .returned v ∧ Q v U'.heap L ∧ FrameEnd U o U' L rm.cells rm.slots)) (eT : T.heap = h) (W : Nat) {g : JFrame} (hg : g.method = m) {ml : Nat} (hml : c.maxLocals = ml) (a : Addr) (E : Exa Z h a C) (argsL rest : List Value) (ha : (.ref a :: argsL).toArray = as') (hlen : ∀ sig, parseMethodDescriptor y.desc = some sig → argsL.length = sig.parameters.length) (hstack : g.stack = argsL.reverse ++ .ref a :: rest) (hd : decode c.code g.pc = .ok (.invokevirtual index, 3)) (hf : rm.frames + 1 ≤ R.frames := by decide) (hl : W + (maxL + 11) + rm.locals ≤ R.locals := by decide) (hc : cells + rm.cells ≤ R.cells := by decide) (hs : slots + rm.slots ≤ R.slots := by decide) (hW : 2 * g.monitorRoom + (rest.map fun v => v.category).sum ≤ W := by show 2 * 0 + _ ≤ _; exact Nat.le_of_eq rfl) (hsz : g.locals.size = ml := by rfl) :
    ∃ (T' : State) (L : List Loc) (v : Option Value), Stand p l e R s m args below meth c T' (locs ++ L) (cells + rm.cells) (slots + rm.slots) ∧ Q v T'.heap L ∧ ∀ t, Steps p.tables e below (T'.setTop { g with pc := g.pc + 3, stack := v.toList ++ rest }) t → Steps p.tables e below (T.setTop g) t := by
  obtain ⟨cq, kq, qa, qb, qc⟩ := isOf hZ eT E
  obtain ⟨v, _, ⟨T', L', k', n'⟩, -, X', ⟨L, hQ, h2, h3, h4⟩, st⟩ := X.virtualBack hx (y := y) (z := z) hown (mvT hZ w1) (mvT hZ w2) hnf (mvT hZ w3) (mvT hZ w4) hy (backOf (W := W) hM hZ w6 w5 hf hl) qa qc (g := g) hg (hsz.trans hml.symm) (Steps.refl _) (argsL := argsL) (rest := rest) hlen hstack hW hd (fun _ _ => ⟨ha, eT, hc, hs⟩)
  dsimp only [Pt.U, Pt.locs, Pt.cells, Pt.slots] at X' h2 h3 h4 st hQ
  subst h2 h3 h4
  exact ⟨T', L, v, X', hQ, fun t k => st.trans k⟩
theorem own_callF (X : Stand p l e R s m args below meth c T locs cells slots) (hx : p.tables.exec = Jvm.exec) {Z : State} {a0 : Array Value} {h : Heap} (hZ : Z.Warmed39 s.vm) {own C : String} {index count : Nat} {y z : MethodName} (hown : s.vm.findClass own = some m.cls) {bytes : ByteArray} {maxL : Nat} {ret : Option FieldType} {rm : Room} {as' : Array Value} {Q : Option Value → Heap → List Loc → Prop} (w1 : (Jvm.Cond.methodLink own index y).before a0 Z = true) (w2 : (Jvm.Cond.declares y).before a0 Z = true) (w3 : (Jvm.Cond.interfaceMethod y.cls y.cls y.name y.desc).before a0 Z = true) (w4 : (Jvm.Cond.selects C y z).before a0 Z = true) (w5 : (Jvm.Cond.instanceMethod z).before a0 Z = true) (w6 : (Jvm.Cond.publicMethod z).before a0 Z = true) (w7 : (Jvm.Cond.unhidden C y.name y.desc).before a0 Z = true) (w8 : (Jvm.Cond.castable C y.cls).before a0 Z = true) (w9 : (Jvm.Cond.initialized z.cls).before a0 Z = true) (w10 : (Jvm.Cond.code z bytes maxL ret).before a0 Z = true) (hy : y.cls ≠ "java/lang/invoke/MethodHandle" ∧ y.cls ≠ "java/lang/invoke/VarHandle")
    (hM : MetFree l z (head1 [Jvm.Cond.code z bytes maxL ret] rm) (fun a U => a = as' ∧ Z.Warmed39 U.vm ∧ U.heap = h) (fun _ _ _ _ _ => True) (fun _ U o U' => ∃ v L, o = .returned v ∧ Q v U'.heap L ∧ FrameEnd U o U' L rm.cells rm.slots)) (eT : T.heap = h) (W : Nat) {g : JFrame} (hg : g.method = m) {ml : Nat} (hml : c.maxLocals = ml) (a : Addr) (E : Exa Z h a C) (argsL rest : List Value) (ha : (.ref a :: argsL).toArray = as') (hlen : ∀ sig, parseMethodDescriptor y.desc = some sig → argsL.length = sig.parameters.length) (hstack : g.stack = argsL.reverse ++ .ref a :: rest) (hd : decode c.code g.pc = .ok (.invokeinterface index count, 5)) (hw3 : ((Jvm.Cond.interfaceMethod y.cls y.cls y.name y.desc).onTables && (Jvm.Cond.interfaceMethod y.cls y.cls y.name y.desc).keepsFace) = true := by first | rfl | simp [Cond.onTables, Cond.keepsFace, Cond.keeps, Cond.steady]) (hf : rm.frames + 1 ≤ R.frames := by decide) (hl : W + (maxL + 11) + rm.locals ≤ R.locals := by decide) (hc : cells + rm.cells ≤ R.cells := by decide) (hs : slots + rm.slots ≤ R.slots := by decide) (hW : 2 * g.monitorRoom + (rest.map fun v => v.category).sum ≤ W := by show 2 * 0 + _ ≤ _; exact Nat.le_of_eq rfl) (hsz : g.locals.size = ml := by rfl) :
    ∃ (T' : State) (L : List Loc) (v : Option Value), Stand p l e R s m args below meth c T' (locs ++ L) (cells + rm.cells) (slots + rm.slots) ∧ Q v T'.heap L ∧ ∀ t, Steps p.tables e below (T'.setTop { g with pc := g.pc + 5, stack := v.toList ++ rest }) t → Steps p.tables e below (T.setTop g) t := by
  obtain ⟨cq, kq, qa, qb, qc⟩ := isOf hZ eT E
  obtain ⟨v, _, ⟨T', L', k', n'⟩, -, X', ⟨L, hQ, h2, h3, h4⟩, st⟩ := X.interfaceBack hx (xi := y) (y := z) hown (mvT hZ w1) (mvT hZ w2) (mvT hZ w3 hw3) (mvT hZ w4) (mvT hZ w5) (mvT hZ w6) (mvT hZ w7) (mvT hZ w8) hy (backOf (W := W) hM hZ w10 w9 hf hl) qa qb qc (g := g) hg (hsz.trans hml.symm) (Steps.refl _) (argsL := argsL) (rest := rest) hlen hstack hW hd (fun _ _ => ⟨ha, eT, hc, hs⟩)
  dsimp only [Pt.U, Pt.locs, Pt.cells, Pt.slots] at X' h2 h3 h4 st hQ
  subst h2 h3 h4
  exact ⟨T', L, v, X', hQ, fun t k => st.trans k⟩
theorem own_c1 {g g' : JFrame} {h : Heap} (h1 : ∃ T', Stand p l e R s m args below meth c T' locs cells slots ∧ T'.heap = h ∧ ∀ t, Steps p.tables e below (T'.setTop g') t → Steps p.tables e below (T.setTop g) t) (k : ∀ T', Stand p l e R s m args below meth c T' locs cells slots → T'.heap = h → own_Go p e below G (T'.setTop g')) : own_Go p e below G (T.setTop g) := by
  obtain ⟨T', X', e', st⟩ := h1
  exact own_by st (k T' X' e')
theorem own_c2 {g g' : JFrame} {h : Heap} {a : Addr} {sl : Nat} {v : Value} (h1 : ∃ T' h', Stand p l e R s m args below meth c T' (locs ++ [⟨a, sl⟩]) cells slots ∧ T'.heap = h' ∧ Wr h h' a sl v ∧ ∀ t, Steps p.tables e below (T'.setTop g') t → Steps p.tables e below (T.setTop g) t) (k : ∀ T' h', Stand p l e R s m args below meth c T' (locs ++ [⟨a, sl⟩]) cells slots → T'.heap = h' → Wr h h' a sl v → own_Go p e below G (T'.setTop g')) : own_Go p e below G (T.setTop g) := by
  obtain ⟨T', h', X', e', W, st⟩ := h1
  exact own_by st (k T' h' X' e' W)
theorem own_cc {g : JFrame} {c1 s1 : Nat} {Q : Option Value → Heap → List Loc → Prop} {f : Option Value → JFrame} (h1 : ∃ (T' : State) (L : List Loc) (v : Option Value), Stand p l e R s m args below meth c T' (locs ++ L) c1 s1 ∧ Q v T'.heap L ∧ ∀ t, Steps p.tables e below (T'.setTop (f v)) t → Steps p.tables e below (T.setTop g) t) (k : ∀ (T' : State) (L : List Loc) (v : Option Value), Stand p l e R s m args below meth c T' (locs ++ L) c1 s1 → Q v T'.heap L → own_Go p e below G (T'.setTop (f v))) : own_Go p e below G (T.setTop g) := by
  obtain ⟨T', L, v, X', hQ, st⟩ := h1
  exact own_by st (k T' L v X' hQ)
end OwnKit
abbrev c0_ : String := "java/util/ArrayList"
abbrev c1_ : String := "java/lang/Object"
abbrev c2_ : String := "java/lang/String"
abbrev c3_ : String := "[Ljava/lang/Object;"
abbrev c4_ : String := "java/util/AbstractList"
abbrev c5_ : String := "java/util/ArrayList$Itr"
abbrev c6_ : String := "com/example/patient_tape/patienttape/StrictJson$Member"
abbrev c7_ : String := "com/example/patient_tape/patienttape/StrictJson$JsonObject"
abbrev c8_ : String := "java/lang/Integer"
abbrev c9_ : String := "Ljava/lang/String;"
abbrev c10_ : String := "com/example/patient_tape/patienttape/JsonObjectValuesPinLaw"
abbrev c11_ : String := "Ljava/lang/Object;"
abbrev c12_ : String := "java/util/List"
abbrev c13_ : String := "COMPACT_STRINGS"
abbrev c14_ : String := "Ljava/util/ArrayList;"
abbrev c15_ : String := "DEFAULTCAPACITY_EMPTY_ELEMENTDATA"
abbrev c16_ : String := "java/lang/StringLatin1"
abbrev c17_ : String := "expectedModCount"
abbrev c18_ : String := "java/lang/StringUTF16"
abbrev c19_ : String := "Ljava/util/List;"
abbrev c20_ : String := "(I)Ljava/lang/Object;"
abbrev c21_ : String := "(Ljava/lang/String;)Ljava/util/List;"
abbrev c22_ : String := "(Ljava/lang/Object;)Z"
abbrev c23_ : String := "()Ljava/lang/Object;"
abbrev c24_ : String := "java/lang/Integer$IntegerCache"
abbrev c25_ : String := "java/lang/invoke/MethodHandle"
abbrev c26_ : String := "java/lang/invoke/VarHandle"
abbrev c27_ : String := "([CIILjava/lang/Void;)V"
abbrev c28_ : String := "(Ljava/lang/Object;[Ljava/lang/Object;I)V"
abbrev c29_ : String := "(II)Ljava/lang/String;"
abbrev c30_ : String := "(III)Ljava/lang/String;"
abbrev c31_ : String := "[Ljava/lang/Integer;"
abbrev c32_ : String := "coderFromArrayLen"
abbrev c33_ : String := "(I)Ljava/lang/Integer;"
abbrev c34_ : String := "java/util/Objects"
abbrev c35_ : String := "java/lang/Record"
abbrev c36_ : String := "java/util/Iterator"
abbrev c37_ : String := "jdk/internal/util/Preconditions"
abbrev c38_ : String := "java/util/AbstractCollection"
abbrev c39_ : String := "()Ljava/util/Iterator;"
abbrev c40_ : String := "(Ljava/lang/String;Ljava/lang/Object;)V"
theorem aN_ {p : Program} {l : Launch} {e : Env} {R : Room} {s : State} {m : MethodId} {args : Array Value} {below : List Frame} {meth : Method} {c : Code} {T t : State} {locs : List Loc} {cells slots : Nat} {g : JFrame} {B : ByteArray} {k : Fin 4} {v : Value} (X : Stand p l e R s m args below meth c T locs cells slots) (hx : p.tables.exec = Jvm.exec) (hby : c.code = B) (hd : decode B g.pc = .ok (.aload_n k, 1)) (hr : Steps p.tables e below (T.setTop { g with pc := g.pc + 1, stack := v :: g.stack }) t) (hg : g.method = m := by rfl) (hl : g.locals[k.val]? = some (.val v) := by rfl) (hv : v.isRef = true := by rfl) : Steps p.tables e below (T.setTop g) t := XS.aloadN X.here hx hg (hb hby hd) hl hv hr
theorem aL_ {p : Program} {l : Launch} {e : Env} {R : Room} {s : State} {m : MethodId} {args : Array Value} {below : List Frame} {meth : Method} {c : Code} {T t : State} {locs : List Loc} {cells slots : Nat} {g : JFrame} {B : ByteArray} {k : Nat} {v : Value} (X : Stand p l e R s m args below meth c T locs cells slots) (hx : p.tables.exec = Jvm.exec) (hby : c.code = B) (hd : decode B g.pc = .ok (.aload k, 2)) (hr : Steps p.tables e below (T.setTop { g with pc := g.pc + 2, stack := v :: g.stack }) t) (hg : g.method = m := by rfl) (hl : g.locals[k]? = some (.val v) := by rfl) (hv : v.isRef = true := by rfl) : Steps p.tables e below (T.setTop g) t := XS.aload X.here hx hg (hb hby hd) hl hv hr
theorem iN_ {p : Program} {l : Launch} {e : Env} {R : Room} {s : State} {m : MethodId} {args : Array Value} {below : List Frame} {meth : Method} {c : Code} {T t : State} {locs : List Loc} {cells slots : Nat} {g : JFrame} {B : ByteArray} {k : Fin 4} {v : Int32} (X : Stand p l e R s m args below meth c T locs cells slots) (hx : p.tables.exec = Jvm.exec) (hby : c.code = B) (hd : decode B g.pc = .ok (.iload_n k, 1)) (hr : Steps p.tables e below (T.setTop { g with pc := g.pc + 1, stack := .int v :: g.stack }) t) (hg : g.method = m := by rfl) (hl : g.locals[k.val]? = some (.val (.int v)) := by rfl) : Steps p.tables e below (T.setTop g) t := XS.iloadN X.here hx hg (hb hby hd) hl hr
theorem iL_ {p : Program} {l : Launch} {e : Env} {R : Room} {s : State} {m : MethodId} {args : Array Value} {below : List Frame} {meth : Method} {c : Code} {T t : State} {locs : List Loc} {cells slots : Nat} {g : JFrame} {B : ByteArray} {k : Nat} {v : Int32} (X : Stand p l e R s m args below meth c T locs cells slots) (hx : p.tables.exec = Jvm.exec) (hby : c.code = B) (hd : decode B g.pc = .ok (.iload k, 2)) (hr : Steps p.tables e below (T.setTop { g with pc := g.pc + 2, stack := .int v :: g.stack }) t) (hg : g.method = m := by rfl) (hl : g.locals[k]? = some (.val (.int v)) := by rfl) : Steps p.tables e below (T.setTop g) t := XS.iload X.here hx hg (hb hby hd) hl hr
theorem iC_ {p : Program} {l : Launch} {e : Env} {R : Room} {s : State} {m : MethodId} {args : Array Value} {below : List Frame} {meth : Method} {c : Code} {T t : State} {locs : List Loc} {cells slots : Nat} {g : JFrame} {B : ByteArray} {i : Int} (X : Stand p l e R s m args below meth c T locs cells slots) (hx : p.tables.exec = Jvm.exec) (hby : c.code = B) (hd : decode B g.pc = .ok (.iconst i, 1)) (hr : Steps p.tables e below (T.setTop { g with pc := g.pc + 1, stack := .int (Int32.ofInt i) :: g.stack }) t) (hg : g.method = m := by rfl) : Steps p.tables e below (T.setTop g) t := XS.iconst X.here hx hg (hb hby hd) hr
abbrev tF_ (T : State) (g : JFrame) : State := T.setTop g
theorem oB_ {p : Program} {e : Env} {below : List Frame} {G : State → Outcome → Prop} {A : State} (B : State) (k : ∀ t, Steps p.tables e below B t → Steps p.tables e below A t) (h : own_Go p e below G B) : own_Go p e below G A := own_by k h
theorem dE_ {P : Prop} (h : P := by decide) : P := h
theorem nB_ {n m : Nat} (h : n.ble m = true := by rfl) : n ≤ m := Nat.le_of_ble_eq_true h
abbrev oW_ (a0 : Array Value) (Z : State) : Prop := ∀ d ∈ tables_1, d.before a0 Z = true
abbrev sO_ := @Jvm.RoadKit.slotOf
abbrev lA0_ (x0 : Addr) (x1 : Int32) (x2 : Addr) (x3 : Int32) (x4 : Int32) : Array Slot := #[rv x0, iv x1, rv x2, iv x3, iv x4, oU, oU]
abbrev lA1_ (x0 : Addr) (x1 : Int32) (x2 : Addr) (x3 : Int32) (x4 : Int32) (x5 : Int32) : Array Slot := #[rv x0, iv x1, rv x2, iv x3, iv x4, iv x5, oU]
abbrev lA2_ (x0 : Addr) (x1 : Int32) (x2 : Addr) (x3 : Int32) (x4 : Int32) (x5 : Int32) (x6 : Int32) : Array Slot := #[rv x0, iv x1, rv x2, iv x3, iv x4, iv x5, iv x6]
abbrev lA3_ (x0 : Addr) (x1 : Int32) (x2 : Int32) : Array Slot := #[rv x0, iv x1, iv x2, oU, oU, oU]
abbrev lA4_ (x0 : Addr) (x1 : Int32) (x2 : Int32) (x3 : Addr) : Array Slot := #[rv x0, iv x1, iv x2, rv x3, oU, oU]
abbrev lA5_ (x0 : Addr) (x1 : Int32) (x2 : Int32) (x3 : Addr) (x4 : Int32) : Array Slot := #[rv x0, iv x1, iv x2, rv x3, iv x4, oU]
abbrev lA6_ (x0 : Int32) (x1 : Int32) : Array Slot := #[iv x0, iv x1, oU, oU, oU]
abbrev lA7_ (x0 : Int32) (x1 : Int32) (x2 : Int32) : Array Slot := #[iv x0, iv x1, iv x2, oU, oU]
abbrev lA8_ (x0 : Int32) (x1 : Int32) (x2 : Int32) (x3 : Int32) : Array Slot := #[iv x0, iv x1, iv x2, iv x3, oU]
abbrev lA9_ (x0 : Int32) (x1 : Int32) (x2 : Int32) (x3 : Int32) (x4 : Int32) : Array Slot := #[iv x0, iv x1, iv x2, iv x3, iv x4]
abbrev lA10_ (x0 : Int32) (x1 : Int32) (x2 : Int32) (x3 : Int32) (x4 : Int32) (x5 : Int32) (x6 : Int32) (x7 : Addr) (x8 : Addr) (x9 : Addr) (x10 : Addr) (x11 : Addr) (x12 : Addr) (x13 : Addr) (x14 : Addr) (x15 : Addr) (x16 : Addr) : Array Slot := #[iv x0, iv x1, iv x2, iv x3, iv x4, iv x5, iv x6, rv x7, rv x8, rv x9, rv x10, rv x11, rv x12, rv x13, rv x14, rv x15, rv x16, oU]
abbrev lA11_ (x0 : Int32) (x1 : Int32) (x2 : Int32) (x3 : Int32) (x4 : Int32) (x5 : Int32) (x6 : Int32) (x7 : Addr) (x8 : Addr) (x9 : Addr) (x10 : Addr) (x11 : Addr) (x12 : Addr) (x13 : Addr) (x14 : Addr) (x15 : Addr) (x16 : Addr) (x17 : Int32) : Array Slot := #[iv x0, iv x1, iv x2, iv x3, iv x4, iv x5, iv x6, rv x7, rv x8, rv x9, rv x10, rv x11, rv x12, rv x13, rv x14, rv x15, rv x16, iv x17]
abbrev lA12_ (x0 : Addr) (x1 : Addr) : Array Slot := #[rv x0, rv x1, oU, oU, oU]
abbrev lA13_ (x0 : Addr) (x1 : Addr) (x2 : Addr) : Array Slot := #[rv x0, rv x1, rv x2, oU, oU]
abbrev lA14_ (x0 : Addr) (x1 : Addr) (x2 : Addr) (x3 : Addr) : Array Slot := #[rv x0, rv x1, rv x2, rv x3, oU]
abbrev lA15_ (x0 : Addr) (x1 : Addr) (x2 : Addr) (x3 : Addr) (x4 : Addr) : Array Slot := #[rv x0, rv x1, rv x2, rv x3, rv x4]
abbrev lA16_ (x0 : Int32) (x1 : Int32) (x2 : Int32) (x3 : Int32) (x4 : Int32) (x5 : Int32) (x6 : Int32) (x7 : Addr) (x8 : Addr) (x9 : Addr) (x10 : Addr) (x11 : Addr) (x12 : Addr) (x13 : Addr) : Array Slot := #[iv x0, iv x1, iv x2, iv x3, iv x4, iv x5, iv x6, rv x7, rv x8, rv x9, rv x10, rv x11, rv x12, rv x13, oU, oU, oU, oU]
abbrev lA17_ (x0 : Int32) (x1 : Int32) (x2 : Int32) (x3 : Int32) (x4 : Int32) (x5 : Int32) (x6 : Int32) (x7 : Addr) (x8 : Addr) (x9 : Addr) (x10 : Addr) (x11 : Addr) (x12 : Addr) (x13 : Addr) (x14 : Addr) : Array Slot := #[iv x0, iv x1, iv x2, iv x3, iv x4, iv x5, iv x6, rv x7, rv x8, rv x9, rv x10, rv x11, rv x12, rv x13, rv x14, oU, oU, oU]
abbrev lA18_ (x0 : Int32) (x1 : Int32) (x2 : Int32) (x3 : Int32) (x4 : Int32) (x5 : Int32) (x6 : Int32) (x7 : Addr) (x8 : Addr) (x9 : Addr) (x10 : Addr) (x11 : Addr) (x12 : Addr) (x13 : Addr) (x14 : Addr) (x15 : Addr) : Array Slot := #[iv x0, iv x1, iv x2, iv x3, iv x4, iv x5, iv x6, rv x7, rv x8, rv x9, rv x10, rv x11, rv x12, rv x13, rv x14, rv x15, oU, oU]
abbrev lA19_ (x0 : Int32) (x1 : Int32) (x2 : Int32) (x3 : Int32) (x4 : Int32) (x5 : Int32) : Array Slot := #[iv x0, iv x1, iv x2, iv x3, iv x4, iv x5, oU, oU, oU, oU, oU, oU, oU, oU, oU, oU, oU, oU]
abbrev lA20_ (x0 : Int32) (x1 : Int32) (x2 : Int32) (x3 : Int32) (x4 : Int32) (x5 : Int32) (x6 : Int32) : Array Slot := #[iv x0, iv x1, iv x2, iv x3, iv x4, iv x5, iv x6, oU, oU, oU, oU, oU, oU, oU, oU, oU, oU, oU]
abbrev lA21_ (x0 : Int32) (x1 : Int32) (x2 : Int32) (x3 : Int32) (x4 : Int32) (x5 : Int32) (x6 : Int32) (x7 : Addr) : Array Slot := #[iv x0, iv x1, iv x2, iv x3, iv x4, iv x5, iv x6, rv x7, oU, oU, oU, oU, oU, oU, oU, oU, oU, oU]
abbrev lA22_ (x0 : Int32) (x1 : Int32) (x2 : Int32) (x3 : Int32) (x4 : Int32) (x5 : Int32) (x6 : Int32) (x7 : Addr) (x8 : Addr) : Array Slot := #[iv x0, iv x1, iv x2, iv x3, iv x4, iv x5, iv x6, rv x7, rv x8, oU, oU, oU, oU, oU, oU, oU, oU, oU]
abbrev lA23_ (x0 : Int32) (x1 : Int32) (x2 : Int32) (x3 : Int32) (x4 : Int32) (x5 : Int32) (x6 : Int32) (x7 : Addr) (x8 : Addr) (x9 : Addr) : Array Slot := #[iv x0, iv x1, iv x2, iv x3, iv x4, iv x5, iv x6, rv x7, rv x8, rv x9, oU, oU, oU, oU, oU, oU, oU, oU]
abbrev lA24_ (x0 : Int32) (x1 : Int32) (x2 : Int32) (x3 : Int32) (x4 : Int32) (x5 : Int32) (x6 : Int32) (x7 : Addr) (x8 : Addr) (x9 : Addr) (x10 : Addr) : Array Slot := #[iv x0, iv x1, iv x2, iv x3, iv x4, iv x5, iv x6, rv x7, rv x8, rv x9, rv x10, oU, oU, oU, oU, oU, oU, oU]
abbrev lA25_ (x0 : Int32) (x1 : Int32) (x2 : Int32) (x3 : Int32) (x4 : Int32) (x5 : Int32) (x6 : Int32) (x7 : Addr) (x8 : Addr) (x9 : Addr) (x10 : Addr) (x11 : Addr) : Array Slot := #[iv x0, iv x1, iv x2, iv x3, iv x4, iv x5, iv x6, rv x7, rv x8, rv x9, rv x10, rv x11, oU, oU, oU, oU, oU, oU]
abbrev lA26_ (x0 : Int32) (x1 : Int32) (x2 : Int32) (x3 : Int32) (x4 : Int32) (x5 : Int32) (x6 : Int32) (x7 : Addr) (x8 : Addr) (x9 : Addr) (x10 : Addr) (x11 : Addr) (x12 : Addr) : Array Slot := #[iv x0, iv x1, iv x2, iv x3, iv x4, iv x5, iv x6, rv x7, rv x8, rv x9, rv x10, rv x11, rv x12, oU, oU, oU, oU, oU]
abbrev rM_ (a b c d : Nat) : Room := ⟨a, b, c, d⟩
abbrev dC0_ (n : Nat) (r : Instr × Nat) : Prop := decode jdk_42_method_149_code n = .ok r
abbrev dC1_ (n : Nat) (r : Instr × Nat) : Prop := decode jdk_42_method_3_code n = .ok r
abbrev dC2_ (n : Nat) (r : Instr × Nat) : Prop := decode jdk_52_method_21_code n = .ok r
abbrev dC3_ (n : Nat) (r : Instr × Nat) : Prop := decode jdk_52_method_16_code n = .ok r
abbrev dC4_ (n : Nat) (r : Instr × Nat) : Prop := decode jdk_52_method_15_code n = .ok r
abbrev dC5_ (n : Nat) (r : Instr × Nat) : Prop := decode method_2_code n = .ok r
abbrev dC6_ (n : Nat) (r : Instr × Nat) : Prop := decode method_3_code n = .ok r
abbrev dC7_ (n : Nat) (r : Instr × Nat) : Prop := decode jdk_43_method_13_code n = .ok r
abbrev dC8_ (n : Nat) (r : Instr × Nat) : Prop := decode jdk_42_method_66_code n = .ok r
abbrev dC9_ (n : Nat) (r : Instr × Nat) : Prop := decode jdk_33_method_22_code n = .ok r
abbrev dC10_ (n : Nat) (r : Instr × Nat) : Prop := decode jdk_38_method_8_code n = .ok r
abbrev dC11_ (n : Nat) (r : Instr × Nat) : Prop := decode jdk_41_method_11_code n = .ok r
abbrev dC12_ (n : Nat) (r : Instr × Nat) : Prop := decode jdk_31_method_17_code n = .ok r
abbrev dC13_ (n : Nat) (r : Instr × Nat) : Prop := decode jdk_38_method_18_code n = .ok r
abbrev dC14_ (n : Nat) (r : Instr × Nat) : Prop := decode jdk_38_method_20_code n = .ok r
abbrev dC15_ (n : Nat) (r : Instr × Nat) : Prop := decode jdk_22_method_1_code n = .ok r
abbrev dC16_ (n : Nat) (r : Instr × Nat) : Prop := decode jdk_39_method_1_code n = .ok r
abbrev dC17_ (n : Nat) (r : Instr × Nat) : Prop := decode jdk_38_method_2_code n = .ok r
abbrev dC18_ (n : Nat) (r : Instr × Nat) : Prop := decode jdk_30_method_1_code n = .ok r
abbrev dC19_ (n : Nat) (r : Instr × Nat) : Prop := decode prog_24_method_1_code n = .ok r
abbrev dC20_ (n : Nat) (r : Instr × Nat) : Prop := decode jdk_49_method_1_code n = .ok r
abbrev dC21_ (n : Nat) (r : Instr × Nat) : Prop := decode jdk_38_method_55_code n = .ok r
abbrev dC22_ (n : Nat) (r : Instr × Nat) : Prop := decode jdk_49_method_2_code n = .ok r
abbrev dC23_ (n : Nat) (r : Instr × Nat) : Prop := decode prog_24_method_2_code n = .ok r
abbrev dC24_ (n : Nat) (r : Instr × Nat) : Prop := decode prog_26_method_1_code n = .ok r
abbrev dC25_ (n : Nat) (r : Instr × Nat) : Prop := decode jdk_29_method_65_code n = .ok r
abbrev dC26_ (n : Nat) (r : Instr × Nat) : Prop := decode jdk_38_method_6_code n = .ok r
abbrev dC27_ (n : Nat) (r : Instr × Nat) : Prop := decode jdk_38_method_7_code n = .ok r
abbrev dC28_ (n : Nat) (r : Instr × Nat) : Prop := decode jdk_38_method_24_code n = .ok r
abbrev dC29_ (n : Nat) (r : Instr × Nat) : Prop := decode jdk_38_method_25_code n = .ok r
abbrev dC30_ (n : Nat) (r : Instr × Nat) : Prop := decode jdk_49_method_6_code n = .ok r
abbrev dC31_ (n : Nat) (r : Instr × Nat) : Prop := decode jdk_49_method_3_code n = .ok r
abbrev dC32_ (n : Nat) (r : Instr × Nat) : Prop := decode prog_26_method_5_code n = .ok r
abbrev dC33_ (n : Nat) (r : Instr × Nat) : Prop := decode prog_26_method_6_code n = .ok r
abbrev y0_ : MethodName := (⟨c18_, "compress", "([CI[BII)I"⟩ : MethodName)
abbrev y1_ : MethodName := (⟨c18_, "compress", "([CII)[B"⟩ : MethodName)
abbrev y2_ : MethodName := (⟨c18_, c32_, "([BI)B"⟩ : MethodName)
abbrev y3_ : MethodName := (⟨c2_, "<init>", c27_⟩ : MethodName)
abbrev y4_ : MethodName := (⟨c2_, "<init>", "([C)V"⟩ : MethodName)
abbrev y5_ : MethodName := (⟨c16_, "equals", "([B[B)Z"⟩ : MethodName)
abbrev y6_ : MethodName := (⟨c8_, "valueOf", c33_⟩ : MethodName)
abbrev y7_ : MethodName := (⟨c0_, "size", "()I"⟩ : MethodName)
abbrev y8_ : MethodName := (⟨c0_, "elementData", c20_⟩ : MethodName)
abbrev y9_ : MethodName := (⟨c0_, "get", c20_⟩ : MethodName)
abbrev y10_ : MethodName := (⟨c0_, "<init>", "()V"⟩ : MethodName)
abbrev y11_ : MethodName := (⟨c35_, "<init>", "()V"⟩ : MethodName)
abbrev y12_ : MethodName := (⟨c5_, "hasNext", "()Z"⟩ : MethodName)
abbrev y13_ : MethodName := (⟨c7_, "values", c21_⟩ : MethodName)
abbrev y14_ : MethodName := (⟨c0_, "add", c28_⟩ : MethodName)
abbrev y15_ : MethodName := (⟨c0_, "add", c22_⟩ : MethodName)
abbrev y16_ : MethodName := (⟨c5_, "next", c23_⟩ : MethodName)
abbrev y17_ : MethodName := (⟨c2_, "equals", c22_⟩ : MethodName)
abbrev y18_ : MethodName := (⟨c10_, "str", c29_⟩ : MethodName)
abbrev y19_ : MethodName := (⟨c10_, "name", c30_⟩ : MethodName)
abbrev oZ : Value := .int (0 : Int32)
abbrev oY : Value := .long (0 : Int64)
theorem hW {Z : State} {a0 : Array Value} (hw : ∀ d ∈ tables_1, d.before a0 Z = true) (i : Nat) {d : Jvm.Cond} (h : tables_1[i]? = some d) : d.before a0 Z = true := hw _ (List.mem_of_getElem? h)
theorem hV {Z : State} {a0 : Array Value} (hw : ∀ d ∈ tables_1, d.before a0 Z = true) (i : Nat) {d : Jvm.Cond} (h : tables_1[i]? = some d := by rfl) : d.before a0 Z = true := hw _ (List.mem_of_getElem? h)
section OwnRun
/-- what a walk holds throughout -/
def oH_ (p : Program) (s : State) (m : MethodId) (c : Code) (Z : State) (own : String) (ml : Nat) (B : ByteArray) : Prop := p.tables.exec = Jvm.exec ∧ Z.Warmed39 s.vm ∧ s.vm.findClass own = some m.cls ∧ c.maxLocals = ml ∧ c.code = B
/-- one plain instruction of length n: what it makes of pc, locals and stack -/
def oR1 (i : Instr) (n pc : Nat) (L : Array Slot) (S : List Value) : Option (Nat × Array Slot × List Value) :=
  match i, n with
  | .aload_n k, 1 => match L[k.val]? with
    | some (.val v) => bif v.isRef then some (pc + 1, L, v :: S) else none
    | _ => none
  | .aload k, 2 => match L[k]? with
    | some (.val v) => bif v.isRef then some (pc + 2, L, v :: S) else none
    | _ => none
  | .iload_n k, 1 => match L[k.val]? with
    | some (.val (.int v)) => some (pc + 1, L, .int v :: S)
    | _ => none
  | .iload k, 2 => match L[k]? with
    | some (.val (.int v)) => some (pc + 2, L, .int v :: S)
    | _ => none
  | .iconst k, 1 => some (pc + 1, L, .int (Int32.ofInt k) :: S)
  | .bipush k, 2 => some (pc + 2, L, .int (Int8.ofInt k).toInt32 :: S)
  | .aconst_null, 1 => some (pc + 1, L, .null :: S)
  | .dup, 1 => match S with
    | x :: r => bif x.category == 1 then some (pc + 1, L, x :: x :: r) else none
    | _ => none
  | .astore_n k, 1 => match S with
    | x :: r => bif x.isRef then (match storeLocals L k.val x with
      | some l' => some (pc + 1, l', r)
      | none => none) else none
    | _ => none
  | .astore k, 2 => match S with
    | x :: r => bif x.isRef then (match storeLocals L k x with
      | some l' => some (pc + 2, l', r)
      | none => none) else none
    | _ => none
  | .istore_n k, 1 => match S with
    | .int x :: r => (match storeLocals L k.val (.int x) with
      | some l' => some (pc + 1, l', r)
      | none => none)
    | _ => none
  | .istore k, 2 => match S with
    | .int x :: r => (match storeLocals L k (.int x) with
      | some l' => some (pc + 2, l', r)
      | none => none)
    | _ => none
  | .goto o, 3 => match (pc : Int) + o with
    | .ofNat q => some (q, L, S)
    | _ => none
  | _, _ => none
def oRun : List (Nat × Instr × Nat) → Nat → Array Slot → List Value → Option (Nat × Array Slot × List Value)
  | [], pc, L, S => some (pc, L, S)
  | (a, i, n) :: r, pc, L, S => bif a == pc then (match oR1 i n pc L S with
    | some (pc', L', S') => oRun r pc' L' S'
    | none => none) else none
abbrev oDec (B : ByteArray) (is : List (Nat × Instr × Nat)) : Prop := ∀ x ∈ is, decode B x.1 = .ok x.2
variable {p : Program} {l : Launch} {e : Env} {R : Room} {s : State} {m : MethodId} {args : Array Value} {below : List Frame} {meth : Method} {c : Code} {T t : State} {locs : List Loc} {cells slots : Nat} {G : State → Outcome → Prop} {B : ByteArray} {Z : State} {own : String} {ml : Nat}
theorem oD0 : oDec B [] := fun _ h => nomatch h
theorem own_step (X : Stand p l e R s m args below meth c T locs cells slots) (hx : p.tables.exec = Jvm.exec) {i : Instr} {n pc : Nat} {L : Array Slot} {S : List Value} {pc' : Nat} {L' : Array Slot} {S' : List Value} (hd : decode c.code pc = .ok (i, n)) (h : oR1 i n pc L S = some (pc', L', S')) (k : Steps p.tables e below (T.setTop (mkF m pc' L' S')) t) : Steps p.tables e below (T.setTop (mkF m pc L S)) t := by
  unfold oR1 at h
  split at h
  · split at h
    · rename_i k v hv
      cases hr : v.isRef with
      | false => rw [hr] at h; cases h
      | true => rw [hr] at h; cases h; exact XS.aloadN X.here hx rfl hd hv hr k
    · cases h
  · split at h
    · rename_i k v hv
      cases hr : v.isRef with
      | false => rw [hr] at h; cases h
      | true => rw [hr] at h; cases h; exact XS.aload X.here hx rfl hd hv hr k
    · cases h
  · split at h
    · rename_i k v hv
      cases h; exact XS.iloadN X.here hx rfl hd hv k
    · cases h
  · split at h
    · rename_i k v hv
      cases h; exact XS.iload X.here hx rfl hd hv k
    · cases h
  · cases h; exact XS.iconst X.here hx rfl hd k
  · cases h; exact XS.bipush X.here hx rfl hd k
  · cases h; exact XS.aconstNull X.here hx rfl hd k
  · split at h
    · rename_i x r
      cases hr : x.category == 1 with
      | false => rw [hr] at h; cases h
      | true => rw [hr] at h; cases h; exact XS.dup X.here hx rfl hd rfl (eq_of_beq hr) k
    · cases h
  · split at h
    · rename_i x r
      cases hr : x.isRef with
      | false => rw [hr] at h; cases h
      | true =>
        rw [hr] at h
        simp only [cond_true] at h
        split at h
        · rename_i l' hl
          cases h; exact XS.astoreN X.here hx rfl hd rfl hr hl k
        · cases h
    · cases h
  · split at h
    · rename_i x r
      cases hr : x.isRef with
      | false => rw [hr] at h; cases h
      | true =>
        rw [hr] at h
        simp only [cond_true] at h
        split at h
        · rename_i l' hl
          cases h; exact XS.astore X.here hx rfl hd rfl hr hl k
        · cases h
    · cases h
  · split at h
    · split at h
      · rename_i l' hl
        cases h; exact XS.istoreN X.here hx rfl hd rfl hl k
      · cases h
    · cases h
  · split at h
    · split at h
      · rename_i l' hl
        cases h; exact XS.istore X.here hx rfl hd rfl hl k
      · cases h
    · cases h
  · split at h
    · rename_i o q hq
      cases h; exact XS.goto X.here hx rfl rfl hd (by rw [hq]; exact Int.natCast_nonneg _) (by rw [hq]; rfl) k
    · cases h
  · cases h
theorem own_run (X : Stand p l e R s m args below meth c T locs cells slots) (hx : p.tables.exec = Jvm.exec) (hby : c.code = B) {is : List (Nat × Instr × Nat)} : oDec B is → ∀ {pc : Nat} {L : Array Slot} {S : List Value} {pc' : Nat} {L' : Array Slot} {S' : List Value}, oRun is pc L S = some (pc', L', S') → Steps p.tables e below (T.setTop (mkF m pc' L' S')) t → Steps p.tables e below (T.setTop (mkF m pc L S)) t := by
  induction is with
  | nil => intro _ pc L S pc' L' S' h k; cases h; exact k
  | cons y r ih =>
    intro hd pc L S pc' L' S' h k
    obtain ⟨a, i, n⟩ := y
    have hd1 : decode B a = .ok (i, n) := hd (a, i, n) (List.mem_cons_self ..)
    have hd2 : oDec B r := fun x hx => hd x (List.mem_cons_of_mem _ hx)
    have h0 : (bif a == pc then (match oR1 i n pc L S with
      | some (pc', L', S') => oRun r pc' L' S'
      | none => none) else none) = some (pc', L', S') := h
    clear h hd
    cases hr : a == pc with
    | false => rw [hr] at h0; cases h0
    | true =>
      have ha := eq_of_beq hr
      subst ha
      rw [hr, cond_true] at h0
      cases h1 : oR1 i n a L S with
      | none => rw [h1] at h0; cases h0
      | some f =>
        obtain ⟨pc1, L1, S1⟩ := f
        rw [h1] at h0
        have k1 := ih hd2 h0 k
        exact own_step X hx (hb hby hd1) h1 k1
theorem oG (X : Stand p l e R s m args below meth c T locs cells slots) (H : oH_ p s m c Z own ml B) {is : List (Nat × Instr × Nat)} (hd : oDec B is) {pc : Nat} {L : Array Slot} {S : List Value} (pc' : Nat) (L' : Array Slot) (S' : List Value) (k : own_Go p e below G (T.setTop (mkF m pc' L' S'))) (h : oRun is pc L S = some (pc', L', S') := by rfl) : own_Go p e below G (T.setTop (mkF m pc L S)) := own_by (fun _ => own_run X H.1 H.2.2.2.2 hd h) k
theorem oH (X : Stand p l e R s m args below meth c T locs cells slots) (H : oH_ p s m c Z own ml B) {is : List (Nat × Instr × Nat)} (hd : oDec B is) {pc : Nat} {L : Array Slot} {S : List Value} (pc' : Nat) (S' : List Value) (k : own_Go p e below G (T.setTop (mkF m pc' L S'))) (h : oRun is pc L S = some (pc', L, S') := by rfl) : own_Go p e below G (T.setTop (mkF m pc L S)) := own_by (fun _ => own_run X H.1 H.2.2.2.2 hd h) k
/-- a plain run, then a branch: to the side (Y) or on (N) -/
theorem oIN (X : Stand p l e R s m args below meth c T locs cells slots) (H : oH_ p s m c Z own ml B) {is : List (Nat × Instr × Nat)} (hd : oDec B is) {pc pc1 : Nat} {L : Array Slot} {S : List Value} {cd : ClassFile.Cond} {o : Int} (hd1 : decode B pc1 = .ok (.ifCond cd o, 3)) (L' : Array Slot) (S' : List Value) {x : Int32} (h : oRun is pc L S = some (pc1, L', .int x :: S')) (hc : ifCond.holds cd x = false) (k : own_Go p e below G (T.setTop (mkF m (pc1 + 3) L' S'))) : own_Go p e below G (T.setTop (mkF m pc L S)) := own_by (fun _ k => own_run X H.1 H.2.2.2.2 hd h (XS.ifNo X.here H.1 rfl (hb H.2.2.2.2 hd1) rfl hc k)) k
theorem oIY (X : Stand p l e R s m args below meth c T locs cells slots) (H : oH_ p s m c Z own ml B) {is : List (Nat × Instr × Nat)} (hd : oDec B is) {pc pc1 : Nat} {L : Array Slot} {S : List Value} {cd : ClassFile.Cond} {o : Int} (hd1 : decode B pc1 = .ok (.ifCond cd o, 3)) (pc' : Nat) (L' : Array Slot) (S' : List Value) {x : Int32} (h : oRun is pc L S = some (pc1, L', .int x :: S')) (hc : ifCond.holds cd x = true) (k : own_Go p e below G (T.setTop (mkF m pc' L' S'))) (ho : 0 ≤ (pc1 : Int) + o := by decide) (hp : ((pc1 : Int) + o).toNat = pc' := by decide) : own_Go p e below G (T.setTop (mkF m pc L S)) := own_by (fun _ k => own_run X H.1 H.2.2.2.2 hd h (XS.ifYes X.here H.1 rfl rfl (hb H.2.2.2.2 hd1) rfl hc ho hp k)) k
theorem oCN (X : Stand p l e R s m args below meth c T locs cells slots) (H : oH_ p s m c Z own ml B) {is : List (Nat × Instr × Nat)} (hd : oDec B is) {pc pc1 : Nat} {L : Array Slot} {S : List Value} {cd : ClassFile.Cond} {o : Int} (hd1 : decode B pc1 = .ok (.if_icmp cd o, 3)) (L' : Array Slot) (S' : List Value) {x y : Int32} (h : oRun is pc L S = some (pc1, L', .int y :: .int x :: S')) (hc : if_icmp.holds cd x y = false) (k : own_Go p e below G (T.setTop (mkF m (pc1 + 3) L' S'))) : own_Go p e below G (T.setTop (mkF m pc L S)) := own_by (fun _ k => own_run X H.1 H.2.2.2.2 hd h (XS.icmpNo X.here H.1 rfl (hb H.2.2.2.2 hd1) rfl hc k)) k
theorem oCY (X : Stand p l e R s m args below meth c T locs cells slots) (H : oH_ p s m c Z own ml B) {is : List (Nat × Instr × Nat)} (hd : oDec B is) {pc pc1 : Nat} {L : Array Slot} {S : List Value} {cd : ClassFile.Cond} {o : Int} (hd1 : decode B pc1 = .ok (.if_icmp cd o, 3)) (pc' : Nat) (L' : Array Slot) (S' : List Value) {x y : Int32} (h : oRun is pc L S = some (pc1, L', .int y :: .int x :: S')) (hc : if_icmp.holds cd x y = true) (k : own_Go p e below G (T.setTop (mkF m pc' L' S'))) (ho : 0 ≤ (pc1 : Int) + o := by decide) (hp : ((pc1 : Int) + o).toNat = pc' := by decide) : own_Go p e below G (T.setTop (mkF m pc L S)) := own_by (fun _ k => own_run X H.1 H.2.2.2.2 hd h (XS.icmpYes X.here H.1 rfl rfl (hb H.2.2.2.2 hd1) rfl hc ho hp k)) k
/-- arraylength and the loads of an array's element -/
theorem oLen (X : Stand p l e R s m args below meth c T locs cells slots) (H : oH_ p s m c Z own ml B) {h : Heap} (eT : T.heap = h) {a : Addr} {kc : ClassId} {ty : FieldType} {z : Int32} {vs : List Value} {dv : Value} (F : Arv Z h a kc ty z vs dv) {pc : Nat} {L : Array Slot} {S : List Value} (hd : decode B pc = .ok (.arraylength, 1)) (k : own_Go p e below G (T.setTop (mkF m (pc + 1) L (.int z :: S)))) : own_Go p e below G (T.setTop (mkF m pc L (.ref a :: S))) := by
  obtain ⟨cl, A, -, q1, q2, -, -⟩ := F
  refine own_by (fun t k => X.arraylength H.1 (by rw [eT]; exact A.1) (State.isArrayOf_alike H.2.1.alike A.2.1) (g := mkF m pc L (.ref a :: S)) rfl rfl (hb H.2.2.2.2 hd) _ ?_) k
  rw [len_of q1 q2]
  exact k
theorem oBal (X : Stand p l e R s m args below meth c T locs cells slots) (H : oH_ p s m c Z own ml B) {h : Heap} (eT : T.heap = h) {a : Addr} {kc : ClassId} {z j : Int32} {vs : List Value} {dv : Value} (F : Arv Z h a kc .byte z vs dv) {pc : Nat} {L : Array Slot} {S : List Value} (hd : decode B pc = .ok (.baload, 1)) (v : Value) (k : own_Go p e below G (T.setTop (mkF m (pc + 1) L (v :: S)))) (h1 : ¬ j < 0 := by decide) (h2 : j < z := by decide) (h3 : vs.getD j.toNatClampNeg dv = v := by rfl) : own_Go p e below G (T.setTop (mkF m pc L (.int j :: .ref a :: S))) := by
  obtain ⟨cl, A, -, q1, q2, Hs, -⟩ := F
  have hin : ¬ (j < 0 ∨ cl.slots.size ≤ j.toNatClampNeg) := inb_of q1 ⟨h1, h2⟩
  exact own_by (fun t k => X.baloadBytes H.1 (by rw [eT]; exact A.1) (State.isArrayOf_alike H.2.1.alike A.2.1) A.2.2 hin (Hs.at hin h3) (g := mkF m pc L (.int j :: .ref a :: S)) rfl rfl (hb H.2.2.2.2 hd) _ k) k
theorem oAal (X : Stand p l e R s m args below meth c T locs cells slots) (H : oH_ p s m c Z own ml B) {h : Heap} (eT : T.heap = h) {a : Addr} {kc : ClassId} {ty : FieldType} {z j : Int32} {vs : List Value} {dv : Value} (F : Arv Z h a kc ty z vs dv) {pc : Nat} {L : Array Slot} {S : List Value} (hd : decode B pc = .ok (.aaload, 1)) (v : Value) (k : own_Go p e below G (T.setTop (mkF m (pc + 1) L (v :: S)))) (h1 : ¬ j < 0 := by decide) (h2 : j < z := by decide) (h3 : vs.getD j.toNatClampNeg dv = v := by rfl) (h4 : ty.isReference = true := by rfl) : own_Go p e below G (T.setTop (mkF m pc L (.int j :: .ref a :: S))) := by
  obtain ⟨cl, A, -, q1, q2, Hs, -⟩ := F
  have hin : ¬ (j < 0 ∨ cl.slots.size ≤ j.toNatClampNeg) := inb_of q1 ⟨h1, h2⟩
  exact own_by (fun t k => X.aaload H.1 (by rw [eT]; exact A.1) (State.isArrayOf_alike H.2.1.alike A.2.1) h4 A.2.2 hin (Hs.at hin h3) (g := mkF m pc L (.int j :: .ref a :: S)) rfl rfl (hb H.2.2.2.2 hd) _ k) k
end OwnRun

section OwnB
variable {p : Program} {l : Launch} {e : Env} {R : Room} {s : State} {m : MethodId} {args : Array Value} {below : List Frame} {meth : Method} {c : Code} {T : State} {locs : List Loc} {cells slots : Nat}
def own_WS (a0 : Array Value) (Z : State) (own : String) (index : Nat) (y : MethodName) (bytes : ByteArray) (maxL : Nat) (ret : Option FieldType) : Prop := (Jvm.Cond.methodLink own index y).before a0 Z = true ∧ (Jvm.Cond.static y).before a0 Z = true ∧ (Jvm.Cond.initialized y.cls).before a0 Z = true ∧ (Jvm.Cond.code y bytes maxL ret).before a0 Z = true ∧ y.cls ≠ c25_ ∧ y.cls ≠ c26_
theorem own_bS (X : Stand p l e R s m args below meth c T locs cells slots) (hx : p.tables.exec = Jvm.exec) {Z : State} {a0 : Array Value} {h : Heap} (hZ : Z.Warmed39 s.vm) {own : String} {index : Nat} {y : MethodName} (hown : s.vm.findClass own = some m.cls) {bytes : ByteArray} {maxL : Nat} {ret : Option FieldType} {rm : Room} {as' : Array Value} {Q : Option Value → Heap → List Loc → Prop} (B : own_WS a0 Z own index y bytes maxL ret)
    (hM : MetFree l y (head1 [Jvm.Cond.code y bytes maxL ret] rm) (fun a U => a = as' ∧ Z.Warmed39 U.vm ∧ U.heap = h) (fun _ _ _ _ _ => True) (fun _ U o U' => ∃ v L, o = .returned v ∧ Q v U'.heap L ∧ FrameEnd U o U' L rm.cells rm.slots)) (eT : T.heap = h) (W : Nat) {g : JFrame} (hg : g.method = m) {ml : Nat} (hml : c.maxLocals = ml) (argsL rest : List Value) (ha : argsL.toArray = as') (hlen : ∀ sig, parseMethodDescriptor y.desc = some sig → argsL.length = sig.parameters.length) (hstack : g.stack = argsL.reverse ++ rest) (hd : decode c.code g.pc = .ok (.invokestatic index, 3)) (hf : rm.frames + 1 ≤ R.frames := by decide) (hl : W + (maxL + 11) + rm.locals ≤ R.locals := by decide) (hc : cells + rm.cells ≤ R.cells := by decide) (hs : slots + rm.slots ≤ R.slots := by decide) (hW : 2 * g.monitorRoom + (rest.map fun v => v.category).sum ≤ W := by show 2 * 0 + _ ≤ _; exact Nat.le_of_eq rfl) (hsz : g.locals.size = ml := by rfl) :
    ∃ (T' : State) (L : List Loc) (v : Option Value), Stand p l e R s m args below meth c T' (locs ++ L) (cells + rm.cells) (slots + rm.slots) ∧ Q v T'.heap L ∧ ∀ t, Steps p.tables e below (T'.setTop { g with pc := g.pc + 3, stack := v.toList ++ rest }) t → Steps p.tables e below (T.setTop g) t :=
  own_callS X hx hZ hown B.1 B.2.1 B.2.2.1 B.2.2.2.1 B.2.2.2.2 hM eT W hg hml argsL rest ha hlen hstack hd (hf := hf) (hl := hl) (hc := hc) (hs := hs) (hW := hW) (hsz := hsz)
def own_WI (a0 : Array Value) (Z : State) (own : String) (index : Nat) (y : MethodName) (bytes : ByteArray) (maxL : Nat) : Prop := y.name = "<init>" ∧ (Jvm.Cond.methodLink own index y).before a0 Z = true ∧ (Jvm.Cond.instanceMethod y).before a0 Z = true ∧ (Jvm.Cond.initialized y.cls).before a0 Z = true ∧ (Jvm.Cond.code y bytes maxL none).before a0 Z = true ∧ y.cls ≠ c25_ ∧ y.cls ≠ c26_
theorem own_bI (X : Stand p l e R s m args below meth c T locs cells slots) (hx : p.tables.exec = Jvm.exec) {Z : State} {a0 : Array Value} {h : Heap} (hZ : Z.Warmed39 s.vm) {own : String} {index : Nat} {y : MethodName} (hown : s.vm.findClass own = some m.cls) {bytes : ByteArray} {maxL : Nat} {rm : Room} {as' : Array Value} {Q : Option Value → Heap → List Loc → Prop} (B : own_WI a0 Z own index y bytes maxL)
    (hM : MetFree l y (head1 [Jvm.Cond.code y bytes maxL none] rm) (fun a U => a = as' ∧ Z.Warmed39 U.vm ∧ U.heap = h) (fun _ _ _ _ _ => True) (fun _ U o U' => ∃ v L, o = .returned v ∧ Q v U'.heap L ∧ FrameEnd U o U' L rm.cells rm.slots)) (eT : T.heap = h) (W : Nat) {g : JFrame} (hg : g.method = m) {ml : Nat} (hml : c.maxLocals = ml) (a : Addr) (argsL rest : List Value) (ha : (.ref a :: argsL).toArray = as') (hlen : ∀ sig, parseMethodDescriptor y.desc = some sig → argsL.length = sig.parameters.length) (hstack : g.stack = argsL.reverse ++ .ref a :: rest) (hd : decode c.code g.pc = .ok (.invokespecial index, 3)) (hf : rm.frames + 1 ≤ R.frames := by decide) (hl : W + (maxL + 11) + rm.locals ≤ R.locals := by decide) (hc : cells + rm.cells ≤ R.cells := by decide) (hs : slots + rm.slots ≤ R.slots := by decide) (hW : 2 * g.monitorRoom + (rest.map fun v => v.category).sum ≤ W := by show 2 * 0 + _ ≤ _; exact Nat.le_of_eq rfl) (hsz : g.locals.size = ml := by rfl) :
    ∃ (T' : State) (L : List Loc) (v : Option Value), Stand p l e R s m args below meth c T' (locs ++ L) (cells + rm.cells) (slots + rm.slots) ∧ Q v T'.heap L ∧ ∀ t, Steps p.tables e below (T'.setTop { g with pc := g.pc + 3, stack := v.toList ++ rest }) t → Steps p.tables e below (T.setTop g) t :=
  own_callI X hx hZ B.1 hown B.2.1 B.2.2.1 B.2.2.2.1 B.2.2.2.2.1 B.2.2.2.2.2 hM eT W hg hml a argsL rest ha hlen hstack hd (hf := hf) (hl := hl) (hc := hc) (hs := hs) (hW := hW) (hsz := hsz)
def own_WP (a0 : Array Value) (Z : State) (own : String) (index n : Nat) (y : MethodName) (bytes : ByteArray) (maxL : Nat) (ret : Option FieldType) : Prop := (Jvm.Cond.methodLink own index y).before a0 Z = true ∧ (Jvm.Cond.instanceMethod y).before a0 Z = true ∧ (Jvm.Cond.initialized y.cls).before a0 Z = true ∧ (Jvm.Cond.code y bytes maxL ret).before a0 Z = true ∧ (Jvm.Cond.privateMethod y).before a0 Z = true ∧ (Jvm.Cond.instantiable y.cls n).before a0 Z = true ∧ y.cls ≠ c25_ ∧ y.cls ≠ c26_
theorem own_bP (X : Stand p l e R s m args below meth c T locs cells slots) (hx : p.tables.exec = Jvm.exec) {Z : State} {a0 : Array Value} {h : Heap} (hZ : Z.Warmed39 s.vm) {own C : String} {index n : Nat} {y : MethodName} (hown : s.vm.findClass own = some m.cls) {bytes : ByteArray} {maxL : Nat} {ret : Option FieldType} {rm : Room} {as' : Array Value} {Q : Option Value → Heap → List Loc → Prop} (B : own_WP a0 Z own index n y bytes maxL ret)
    (hM : MetFree l y (head1 [Jvm.Cond.code y bytes maxL ret] rm) (fun a U => a = as' ∧ Z.Warmed39 U.vm ∧ U.heap = h) (fun _ _ _ _ _ => True) (fun _ U o U' => ∃ v L, o = .returned v ∧ Q v U'.heap L ∧ FrameEnd U o U' L rm.cells rm.slots)) (eT : T.heap = h) (W : Nat) {g : JFrame} (hg : g.method = m) {ml : Nat} (hml : c.maxLocals = ml) (a : Addr) (E : Exa Z h a C) (argsL rest : List Value) (ha : (.ref a :: argsL).toArray = as') (hlen : ∀ sig, parseMethodDescriptor y.desc = some sig → argsL.length = sig.parameters.length) (hstack : g.stack = argsL.reverse ++ .ref a :: rest) (hd : decode c.code g.pc = .ok (.invokevirtual index, 3)) (hf : rm.frames + 1 ≤ R.frames := by decide) (hl : W + (maxL + 11) + rm.locals ≤ R.locals := by decide) (hc : cells + rm.cells ≤ R.cells := by decide) (hs : slots + rm.slots ≤ R.slots := by decide) (hW : 2 * g.monitorRoom + (rest.map fun v => v.category).sum ≤ W := by show 2 * 0 + _ ≤ _; exact Nat.le_of_eq rfl) (hsz : g.locals.size = ml := by rfl) :
    ∃ (T' : State) (L : List Loc) (v : Option Value), Stand p l e R s m args below meth c T' (locs ++ L) (cells + rm.cells) (slots + rm.slots) ∧ Q v T'.heap L ∧ ∀ t, Steps p.tables e below (T'.setTop { g with pc := g.pc + 3, stack := v.toList ++ rest }) t → Steps p.tables e below (T.setTop g) t :=
  own_callP X hx hZ hown B.1 B.2.1 B.2.2.1 B.2.2.2.1 B.2.2.2.2.1 B.2.2.2.2.2.1 B.2.2.2.2.2.2 hM eT W hg hml a E argsL rest ha hlen hstack hd (hf := hf) (hl := hl) (hc := hc) (hs := hs) (hW := hW) (hsz := hsz)
def own_WV (a0 : Array Value) (Z : State) (own C : String) (index : Nat) (y : MethodName) (bytes : ByteArray) (maxL : Nat) (ret : Option FieldType) : Prop := (Jvm.Cond.methodLink own index y).before a0 Z = true ∧ (Jvm.Cond.declares y).before a0 Z = true ∧ (Jvm.Cond.selects C y y).before a0 Z = true ∧ (Jvm.Cond.instanceMethod y).before a0 Z = true ∧ (Jvm.Cond.initialized y.cls).before a0 Z = true ∧ (Jvm.Cond.code y bytes maxL ret).before a0 Z = true ∧ y.cls ≠ c25_ ∧ y.cls ≠ c26_
theorem own_bV (X : Stand p l e R s m args below meth c T locs cells slots) (hx : p.tables.exec = Jvm.exec) {Z : State} {a0 : Array Value} {h : Heap} (hZ : Z.Warmed39 s.vm) {own C : String} {index : Nat} {y : MethodName} (hown : s.vm.findClass own = some m.cls) {bytes : ByteArray} {maxL : Nat} {ret : Option FieldType} {rm : Room} {as' : Array Value} {Q : Option Value → Heap → List Loc → Prop} (B : own_WV a0 Z own C index y bytes maxL ret)
    (hM : MetFree l y (head1 [Jvm.Cond.code y bytes maxL ret] rm) (fun a U => a = as' ∧ Z.Warmed39 U.vm ∧ U.heap = h) (fun _ _ _ _ _ => True) (fun _ U o U' => ∃ v L, o = .returned v ∧ Q v U'.heap L ∧ FrameEnd U o U' L rm.cells rm.slots)) (eT : T.heap = h) (W : Nat) {g : JFrame} (hg : g.method = m) {ml : Nat} (hml : c.maxLocals = ml) (a : Addr) (E : Exa Z h a C) (argsL rest : List Value) (ha : (.ref a :: argsL).toArray = as') (hlen : ∀ sig, parseMethodDescriptor y.desc = some sig → argsL.length = sig.parameters.length) (hstack : g.stack = argsL.reverse ++ .ref a :: rest) (hd : decode c.code g.pc = .ok (.invokevirtual index, 3)) (hf : rm.frames + 1 ≤ R.frames := by decide) (hl : W + (maxL + 11) + rm.locals ≤ R.locals := by decide) (hc : cells + rm.cells ≤ R.cells := by decide) (hs : slots + rm.slots ≤ R.slots := by decide) (hW : 2 * g.monitorRoom + (rest.map fun v => v.category).sum ≤ W := by show 2 * 0 + _ ≤ _; exact Nat.le_of_eq rfl) (hsz : g.locals.size = ml := by rfl) :
    ∃ (T' : State) (L : List Loc) (v : Option Value), Stand p l e R s m args below meth c T' (locs ++ L) (cells + rm.cells) (slots + rm.slots) ∧ Q v T'.heap L ∧ ∀ t, Steps p.tables e below (T'.setTop { g with pc := g.pc + 3, stack := v.toList ++ rest }) t → Steps p.tables e below (T.setTop g) t :=
  own_callV X hx hZ hown B.1 B.2.1 (notFace_of_selects (args := #[]) (mvT hZ B.2.2.1)) B.2.2.1 B.2.2.2.1 B.2.2.2.2.1 B.2.2.2.2.2.1 B.2.2.2.2.2.2 hM eT W hg hml a E argsL rest ha hlen hstack hd (hf := hf) (hl := hl) (hc := hc) (hs := hs) (hW := hW) (hsz := hsz)
def own_WF (a0 : Array Value) (Z : State) (own C : String) (index : Nat) (y z : MethodName) (bytes : ByteArray) (maxL : Nat) (ret : Option FieldType) : Prop := (Jvm.Cond.methodLink own index y).before a0 Z = true ∧ (Jvm.Cond.declares y).before a0 Z = true ∧ (Jvm.Cond.interfaceMethod y.cls y.cls y.name y.desc).before a0 Z = true ∧ (Jvm.Cond.selects C y z).before a0 Z = true ∧ (Jvm.Cond.instanceMethod z).before a0 Z = true ∧ (Jvm.Cond.publicMethod z).before a0 Z = true ∧ (Jvm.Cond.unhidden C y.name y.desc).before a0 Z = true ∧ (Jvm.Cond.castable C y.cls).before a0 Z = true ∧ (Jvm.Cond.initialized z.cls).before a0 Z = true ∧ (Jvm.Cond.code z bytes maxL ret).before a0 Z = true ∧ ((Jvm.Cond.interfaceMethod y.cls y.cls y.name y.desc).onTables && (Jvm.Cond.interfaceMethod y.cls y.cls y.name y.desc).keepsFace) = true ∧ y.cls ≠ c25_ ∧ y.cls ≠ c26_
theorem own_bF (X : Stand p l e R s m args below meth c T locs cells slots) (hx : p.tables.exec = Jvm.exec) {Z : State} {a0 : Array Value} {h : Heap} (hZ : Z.Warmed39 s.vm) {own C : String} {index count : Nat} {y z : MethodName} (hown : s.vm.findClass own = some m.cls) {bytes : ByteArray} {maxL : Nat} {ret : Option FieldType} {rm : Room} {as' : Array Value} {Q : Option Value → Heap → List Loc → Prop} (B : own_WF a0 Z own C index y z bytes maxL ret)
    (hM : MetFree l z (head1 [Jvm.Cond.code z bytes maxL ret] rm) (fun a U => a = as' ∧ Z.Warmed39 U.vm ∧ U.heap = h) (fun _ _ _ _ _ => True) (fun _ U o U' => ∃ v L, o = .returned v ∧ Q v U'.heap L ∧ FrameEnd U o U' L rm.cells rm.slots)) (eT : T.heap = h) (W : Nat) {g : JFrame} (hg : g.method = m) {ml : Nat} (hml : c.maxLocals = ml) (a : Addr) (E : Exa Z h a C) (argsL rest : List Value) (ha : (.ref a :: argsL).toArray = as') (hlen : ∀ sig, parseMethodDescriptor y.desc = some sig → argsL.length = sig.parameters.length) (hstack : g.stack = argsL.reverse ++ .ref a :: rest) (hd : decode c.code g.pc = .ok (.invokeinterface index count, 5)) (hf : rm.frames + 1 ≤ R.frames := by decide) (hl : W + (maxL + 11) + rm.locals ≤ R.locals := by decide) (hc : cells + rm.cells ≤ R.cells := by decide) (hs : slots + rm.slots ≤ R.slots := by decide) (hW : 2 * g.monitorRoom + (rest.map fun v => v.category).sum ≤ W := by show 2 * 0 + _ ≤ _; exact Nat.le_of_eq rfl) (hsz : g.locals.size = ml := by rfl) :
    ∃ (T' : State) (L : List Loc) (v : Option Value), Stand p l e R s m args below meth c T' (locs ++ L) (cells + rm.cells) (slots + rm.slots) ∧ Q v T'.heap L ∧ ∀ t, Steps p.tables e below (T'.setTop { g with pc := g.pc + 5, stack := v.toList ++ rest }) t → Steps p.tables e below (T.setTop g) t :=
  own_callF X hx hZ hown B.1 B.2.1 B.2.2.1 B.2.2.2.1 B.2.2.2.2.1 B.2.2.2.2.2.1 B.2.2.2.2.2.2.1 B.2.2.2.2.2.2.2.1 B.2.2.2.2.2.2.2.2.1 B.2.2.2.2.2.2.2.2.2.1 B.2.2.2.2.2.2.2.2.2.2.2 hM eT W hg hml a E argsL rest ha hlen hstack hd (hf := hf) (hl := hl) (hc := hc) (hs := hs) (hW := hW) (hsz := hsz) (hw3 := B.2.2.2.2.2.2.2.2.2.2.1)
end OwnB
section OwnC
variable {p : Program} {l : Launch} {e : Env} {R : Room} {s : State} {m : MethodId} {args : Array Value} {below : List Frame} {meth : Method} {c : Code} {T : State} {locs : List Loc} {cells slots : Nat} {G : State → Outcome → Prop} {Z : State} {a0 : Array Value} {h : Heap} {own C : String} {index : Nat} {y z : MethodName} {bytes B : ByteArray} {maxL ml : Nat} {ret : Option FieldType} {rm : Room} {as' : Array Value} {Q : Option Value → Heap → List Loc → Prop} {ws : List Jvm.Cond} {A : Array Value} {h0 : Heap} {pc : Nat} {L : Array Slot} {S : List Value} {ps : List FieldType} {rt : Option FieldType}
/-- a body's contract -/
def oM (l : Launch) (y : MethodName) (bytes : ByteArray) (maxL : Nat) (ret : Option FieldType) (ws : List Jvm.Cond) (rm : Room) (A : Array Value) (Z : State) (h0 : Heap) (Q : Option Value → Heap → List Loc → Prop) : Prop :=
  MetFree l y (head1 (Jvm.Cond.code y bytes maxL ret :: ws) rm) (fun a U => a = A ∧ Z.Warmed39 U.vm ∧ U.heap = h0) (fun _ _ _ _ _ => True) (fun _ U o U' => ∃ v L, o = .returned v ∧ Q v U'.heap L ∧ FrameEnd U o U' L rm.cells rm.slots)
theorem own_body (own : String) (hpl : plainFor y = true) {Ls : Array Slot} (hef : ∀ m, entryFrame m A ml = mkF m 0 Ls []) (k : ∀ (p : Program) (e : Env) (s : State) (m : MethodId) (below : List Frame) (meth : Method) (c : Code) (s₁ : State), Stand p l e rm s m A below meth c s₁ [] 0 0 → oH_ p s m c Z own ml bytes → meth.name = y.name → meth.sig.returnType = ret → meth.locks = false → s₁.heap = h0 → own_Go p e below (own_Post s Q rm.cells rm.slots) (s₁.setTop (mkF m 0 Ls []))) (ho : y.cls = own := by rfl) : oM l y bytes ml ret ws rm A Z h0 Q := by
  refine MetFree.of_bodySF hpl hisR ?_
  intro p e s m args below meth c s₁ Bd hml0 hP hK
  obtain ⟨rfl, hZ, hh⟩ := hP
  have e0 : s₁.heap = h0 := by rw [← hh, Bd.state]; rfl
  change own_Go p e below (own_Post s Q rm.cells rm.slots) (s₁.setTop (entryFrame m _ ml))
  exact own_by (fun t k => castTop (hef m) k) (k p e s m below meth c s₁ (Stand.of_body Bd) ⟨Bd.exec, hZ, ho ▸ findClass_of_methodNamed Bd.named, hml0, Bd.bytes⟩ (name_of_methodNamed Bd.named Bd.method).1 Bd.returns Bd.notSynchronized e0)
theorem ocS (X : Stand p l e R s m args below meth c T locs cells slots) (H : oH_ p s m c Z own ml B) (W : own_WS a0 Z own index y bytes maxL ret) (hM : oM l y bytes maxL ret [] rm as' Z h Q) (eT : T.heap = h) (w : Nat) (argsL rest : List Value) (pd : parseMethodDescriptor y.desc = some ⟨ps, rt⟩) (hd : decode B pc = .ok (.invokestatic index, 3)) (k : ∀ (T' : State) (L' : List Loc) (v : Option Value), Stand p l e R s m args below meth c T' (locs ++ L') (cells + rm.cells) (slots + rm.slots) → Q v T'.heap L' → own_Go p e below G (T'.setTop (mkF m (pc + 3) L (v.toList ++ rest)))) (ha : argsL.toArray = as' := by rfl) (hlen : argsL.length = ps.length := by rfl) (hstack : S = argsL.reverse ++ rest := by rfl) (hf : rm.frames + 1 ≤ R.frames := by decide) (hl : w + (maxL + 11) + rm.locals ≤ R.locals := by decide) (hc : cells + rm.cells ≤ R.cells := by decide) (hs : slots + rm.slots ≤ R.slots := by decide) (hW : (rest.map fun v => v.category).sum ≤ w := by exact Nat.le_of_eq rfl) (hsz : L.size = ml := by rfl) : own_Go p e below G (T.setTop (mkF m pc L S)) :=
  own_cc (f := fun v => mkF m (pc + 3) L (v.toList ++ rest)) (own_bS X H.1 H.2.1 H.2.2.1 W hM eT w (g := mkF m pc L S) rfl H.2.2.2.1 argsL rest ha (lenOf pd hlen) hstack (hb H.2.2.2.2 hd) (hf := hf) (hl := hl) (hc := hc) (hs := hs) (hW := by show 2 * 0 + _ ≤ _; rw [Nat.mul_zero, Nat.zero_add]; exact hW) (hsz := hsz)) k
theorem ocI (X : Stand p l e R s m args below meth c T locs cells slots) (H : oH_ p s m c Z own ml B) (W : own_WI a0 Z own index y bytes maxL) (hM : oM l y bytes maxL none [] rm as' Z h Q) (eT : T.heap = h) (w : Nat) (a : Addr) (argsL rest : List Value) (pd : parseMethodDescriptor y.desc = some ⟨ps, rt⟩) (hd : decode B pc = .ok (.invokespecial index, 3)) (k : ∀ (T' : State) (L' : List Loc) (v : Option Value), Stand p l e R s m args below meth c T' (locs ++ L') (cells + rm.cells) (slots + rm.slots) → Q v T'.heap L' → own_Go p e below G (T'.setTop (mkF m (pc + 3) L (v.toList ++ rest)))) (ha : (.ref a :: argsL).toArray = as' := by rfl) (hlen : argsL.length = ps.length := by rfl) (hstack : S = argsL.reverse ++ .ref a :: rest := by rfl) (hf : rm.frames + 1 ≤ R.frames := by decide) (hl : w + (maxL + 11) + rm.locals ≤ R.locals := by decide) (hc : cells + rm.cells ≤ R.cells := by decide) (hs : slots + rm.slots ≤ R.slots := by decide) (hW : (rest.map fun v => v.category).sum ≤ w := by exact Nat.le_of_eq rfl) (hsz : L.size = ml := by rfl) : own_Go p e below G (T.setTop (mkF m pc L S)) :=
  own_cc (f := fun v => mkF m (pc + 3) L (v.toList ++ rest)) (own_bI X H.1 H.2.1 H.2.2.1 W hM eT w (g := mkF m pc L S) rfl H.2.2.2.1 a argsL rest ha (lenOf pd hlen) hstack (hb H.2.2.2.2 hd) (hf := hf) (hl := hl) (hc := hc) (hs := hs) (hW := by show 2 * 0 + _ ≤ _; rw [Nat.mul_zero, Nat.zero_add]; exact hW) (hsz := hsz)) k
theorem ocP (X : Stand p l e R s m args below meth c T locs cells slots) (H : oH_ p s m c Z own ml B) {n : Nat} (W : own_WP a0 Z own index n y bytes maxL ret) (hM : oM l y bytes maxL ret [] rm as' Z h Q) (eT : T.heap = h) (w : Nat) (a : Addr) (E : Exa Z h a C) (argsL rest : List Value) (pd : parseMethodDescriptor y.desc = some ⟨ps, rt⟩) (hd : decode B pc = .ok (.invokevirtual index, 3)) (k : ∀ (T' : State) (L' : List Loc) (v : Option Value), Stand p l e R s m args below meth c T' (locs ++ L') (cells + rm.cells) (slots + rm.slots) → Q v T'.heap L' → own_Go p e below G (T'.setTop (mkF m (pc + 3) L (v.toList ++ rest)))) (ha : (.ref a :: argsL).toArray = as' := by rfl) (hlen : argsL.length = ps.length := by rfl) (hstack : S = argsL.reverse ++ .ref a :: rest := by rfl) (hf : rm.frames + 1 ≤ R.frames := by decide) (hl : w + (maxL + 11) + rm.locals ≤ R.locals := by decide) (hc : cells + rm.cells ≤ R.cells := by decide) (hs : slots + rm.slots ≤ R.slots := by decide) (hW : (rest.map fun v => v.category).sum ≤ w := by exact Nat.le_of_eq rfl) (hsz : L.size = ml := by rfl) : own_Go p e below G (T.setTop (mkF m pc L S)) :=
  own_cc (f := fun v => mkF m (pc + 3) L (v.toList ++ rest)) (own_bP X H.1 H.2.1 H.2.2.1 W hM eT w (g := mkF m pc L S) rfl H.2.2.2.1 a E argsL rest ha (lenOf pd hlen) hstack (hb H.2.2.2.2 hd) (hf := hf) (hl := hl) (hc := hc) (hs := hs) (hW := by show 2 * 0 + _ ≤ _; rw [Nat.mul_zero, Nat.zero_add]; exact hW) (hsz := hsz)) k
theorem ocV (X : Stand p l e R s m args below meth c T locs cells slots) (H : oH_ p s m c Z own ml B) (W : own_WV a0 Z own C index y bytes maxL ret) (hM : oM l y bytes maxL ret [] rm as' Z h Q) (eT : T.heap = h) (w : Nat) (a : Addr) (E : Exa Z h a C) (argsL rest : List Value) (pd : parseMethodDescriptor y.desc = some ⟨ps, rt⟩) (hd : decode B pc = .ok (.invokevirtual index, 3)) (k : ∀ (T' : State) (L' : List Loc) (v : Option Value), Stand p l e R s m args below meth c T' (locs ++ L') (cells + rm.cells) (slots + rm.slots) → Q v T'.heap L' → own_Go p e below G (T'.setTop (mkF m (pc + 3) L (v.toList ++ rest)))) (ha : (.ref a :: argsL).toArray = as' := by rfl) (hlen : argsL.length = ps.length := by rfl) (hstack : S = argsL.reverse ++ .ref a :: rest := by rfl) (hf : rm.frames + 1 ≤ R.frames := by decide) (hl : w + (maxL + 11) + rm.locals ≤ R.locals := by decide) (hc : cells + rm.cells ≤ R.cells := by decide) (hs : slots + rm.slots ≤ R.slots := by decide) (hW : (rest.map fun v => v.category).sum ≤ w := by exact Nat.le_of_eq rfl) (hsz : L.size = ml := by rfl) : own_Go p e below G (T.setTop (mkF m pc L S)) :=
  own_cc (f := fun v => mkF m (pc + 3) L (v.toList ++ rest)) (own_bV X H.1 H.2.1 H.2.2.1 W hM eT w (g := mkF m pc L S) rfl H.2.2.2.1 a E argsL rest ha (lenOf pd hlen) hstack (hb H.2.2.2.2 hd) (hf := hf) (hl := hl) (hc := hc) (hs := hs) (hW := by show 2 * 0 + _ ≤ _; rw [Nat.mul_zero, Nat.zero_add]; exact hW) (hsz := hsz)) k
theorem ocF (X : Stand p l e R s m args below meth c T locs cells slots) (H : oH_ p s m c Z own ml B) {count : Nat} (W : own_WF a0 Z own C index y z bytes maxL ret) (hM : oM l z bytes maxL ret [] rm as' Z h Q) (eT : T.heap = h) (w : Nat) (a : Addr) (E : Exa Z h a C) (argsL rest : List Value) (pd : parseMethodDescriptor y.desc = some ⟨ps, rt⟩) (hd : decode B pc = .ok (.invokeinterface index count, 5)) (k : ∀ (T' : State) (L' : List Loc) (v : Option Value), Stand p l e R s m args below meth c T' (locs ++ L') (cells + rm.cells) (slots + rm.slots) → Q v T'.heap L' → own_Go p e below G (T'.setTop (mkF m (pc + 5) L (v.toList ++ rest)))) (ha : (.ref a :: argsL).toArray = as' := by rfl) (hlen : argsL.length = ps.length := by rfl) (hstack : S = argsL.reverse ++ .ref a :: rest := by rfl) (hf : rm.frames + 1 ≤ R.frames := by decide) (hl : w + (maxL + 11) + rm.locals ≤ R.locals := by decide) (hc : cells + rm.cells ≤ R.cells := by decide) (hs : slots + rm.slots ≤ R.slots := by decide) (hW : (rest.map fun v => v.category).sum ≤ w := by exact Nat.le_of_eq rfl) (hsz : L.size = ml := by rfl) : own_Go p e below G (T.setTop (mkF m pc L S)) :=
  own_cc (f := fun v => mkF m (pc + 5) L (v.toList ++ rest)) (own_bF X H.1 H.2.1 H.2.2.1 W hM eT w (g := mkF m pc L S) rfl H.2.2.2.1 a E argsL rest ha (lenOf pd hlen) hstack (hb H.2.2.2.2 hd) (hf := hf) (hl := hl) (hc := hc) (hs := hs) (hW := by show 2 * 0 + _ ≤ _; rw [Nat.mul_zero, Nat.zero_add]; exact hW) (hsz := hsz)) k
theorem oGF (X : Stand p l e R s m args below meth c T locs cells slots) (H : oH_ p s m c Z own ml B) {R0 O n d host : String} (w : (Cond.fieldLink own index R0 n d).before a0 Z = true ∨ (Cond.fieldLinkNest own index R0 n d host).before a0 Z = true) (via : Via Z R0 O n d) (eT : T.heap = h) {a : Addr} {v : Value} (F : Fld Z h a O n d v) (hd : decode B pc = .ok (.getfield index, 3)) (k : ∀ T', Stand p l e R s m args below meth c T' locs cells slots → T'.heap = h → own_Go p e below G (T'.setTop (mkF m (pc + 3) L (v :: S)))) : own_Go p e below G (T.setTop (mkF m pc L (.ref a :: S))) :=
  own_c1 (g' := mkF m (pc + 3) L (v :: S)) (getF X H.1 H.2.1 H.2.2.1 w via eT F (g := mkF m pc L (.ref a :: S)) rfl rfl (hb H.2.2.2.2 hd)) k
theorem oGf (X : Stand p l e R s m args below meth c T locs cells slots) (H : oH_ p s m c Z own ml B) {O n d : String} (w : (Cond.fieldLink own index O n d).before a0 Z = true) (eT : T.heap = h) {a : Addr} {v : Value} (F : Fld Z h a O n d v) (hd : decode B pc = .ok (.getfield index, 3)) (k : ∀ T', Stand p l e R s m args below meth c T' locs cells slots → T'.heap = h → own_Go p e below G (T'.setTop (mkF m (pc + 3) L (v :: S)))) : own_Go p e below G (T.setTop (mkF m pc L (.ref a :: S))) := oGF (host := "") X H (Or.inl w) Via.refl eT F hd k
theorem oGS (X : Stand p l e R s m args below meth c T locs cells slots) (H : oH_ p s m c Z own ml B) {R0 O n d host : String} (w : (Cond.fieldLink own index R0 n d).before a0 Z = true ∨ (Cond.fieldLinkNest own index R0 n d host).before a0 Z = true) (via : Via Z R0 O n d) (eT : T.heap = h) {v : Value} (F : Sta Z h O n d v) (hd : decode B pc = .ok (.getstatic index, 3)) (k : ∀ T', Stand p l e R s m args below meth c T' locs cells slots → T'.heap = h → own_Go p e below G (T'.setTop (mkF m (pc + 3) L (v :: S)))) : own_Go p e below G (T.setTop (mkF m pc L S)) :=
  own_c1 (g' := mkF m (pc + 3) L (v :: S)) (getS2 X H.1 H.2.1 H.2.2.1 w via eT F (g := mkF m pc L S) rfl (hb H.2.2.2.2 hd)) k
theorem oNw (X : Stand p l e R s m args below meth c T locs cells slots) (H : oH_ p s m c Z own ml B) {n : Nat} (w : (Cond.classLink own index C).before a0 Z = true) (wi : (Cond.instantiable C n).before a0 Z = true) (wz : (Cond.initialized C).before a0 Z = true) (eT : T.heap = h) (hd : decode B pc = .ok (.new index, 3)) (k : ∀ (T' : State) (h' : Heap) (b : Addr), Stand p l e R s m args below meth c T' locs (cells + 1) (slots + n) → T'.heap = h' → Ext h h' → h.size ≤ b → Exa Z h' b C → (∀ {O nm d : String} {ty : FieldType}, Laid Z a0 C O nm d → parseFieldDescriptor d = some ty → Fld Z h' b O nm d (defaultValue ty)) → own_Go p e below G (T'.setTop (mkF m (pc + 3) L (.ref b :: S)))) (hc : cells + 1 ≤ R.cells := by decide) (hl : slots + n ≤ R.slots := by decide) : own_Go p e below G (T.setTop (mkF m pc L S)) := by
  obtain ⟨T', h', X', e', E, A, D, -, st⟩ := newO X H.1 H.2.1 H.2.2.1 w wi wz eT (g := mkF m pc L S) rfl (hb H.2.2.2.2 hd) hc hl
  exact own_by st (k T' h' _ X' e' E (Nat.le_refl _) A D)
theorem oKst (X : Stand p l e R s m args below meth c T locs cells slots) (H : oH_ p s m c Z own ml B) (w : (Cond.classLink own index C).before a0 Z = true) (eT : T.heap = h) {a : Addr} (I : Ins Z h a C true) (hd : decode B pc = .ok (.checkcast index, 3)) (k : ∀ T', Stand p l e R s m args below meth c T' locs cells slots → T'.heap = h → own_Go p e below G (T'.setTop (mkF m (pc + 3) L (.ref a :: S)))) : own_Go p e below G (T.setTop (mkF m pc L (.ref a :: S))) :=
  own_c1 (g' := mkF m (pc + 3) L (.ref a :: S)) (castY X H.1 H.2.1 H.2.2.1 w eT I (g := mkF m pc L (.ref a :: S)) rfl rfl (hb H.2.2.2.2 hd)) k
theorem oNl {a b n : Nat} (h1 : a < n) (h2 : n ≤ b) : a ≠ b := Nat.ne_of_lt (Nat.lt_of_lt_of_le h1 h2)
end OwnC

variable {l : Launch} {Z : State} {a0 : Array Value} {ws : List Jvm.Cond} {h0 : Heap} {n0 : Nat} {o0 o1 o2 o3 o4 o5 o6 o7 o8 o9 o10 o11 o12 o13 o14 o15 o16 o17 o18 o19 o20 o21 o22 o23 cc w0 w1 w2 em : Addr} {i0 i1 i2 i3 i4 i5 i6 i7 i8 i9 i10 i11 cs : Int32} {k0 k1 k2 k3 k4 k5 ke : ClassId} {l0 l1 l2 l3 l4 l5 : List Value}
theorem sn0 {Z : State} {a0 : Array Value} (hw : oW_ a0 Z) : sO_ Z c2_ "coder" "B" ≠ sO_ Z c2_ "value" "[B" := slot_ne (Or.inr (hV hw 21)) (Or.inr (hV hw 20)) dE_ (t := .byte) (t' := (.array .byte)) dE_ dE_
theorem sn1 {Z : State} {a0 : Array Value} (hw : oW_ a0 Z) : sO_ Z c2_ "value" "[B" ≠ sO_ Z c2_ "coder" "B" := slot_ne (Or.inr (hV hw 20)) (Or.inr (hV hw 21)) dE_ (t := (.array .byte)) (t' := .byte) dE_ dE_
theorem wb0_ {Z : State} {a0 : Array Value} (hw : oW_ a0 Z) : own_WS a0 Z c18_ 115 y0_ jdk_52_method_21_code 7 (some .int) := ⟨(hV hw 34), (hV hw 35), (hV hw 32), (hV hw 36), by decide⟩
theorem wb1_ {Z : State} {a0 : Array Value} (hw : oW_ a0 Z) : own_WS a0 Z c2_ 177 y1_ jdk_52_method_16_code 6 (some (.array .byte)) := ⟨(hV hw 30), (hV hw 31), (hV hw 32), (hV hw 33), by decide⟩
theorem wb2_ {Z : State} {a0 : Array Value} (hw : oW_ a0 Z) : own_WS a0 Z c2_ 47 y2_ jdk_52_method_15_code 2 (some .byte) := ⟨(hV hw 37), (hV hw 38), (hV hw 32), (hV hw 39), by decide⟩
theorem wb3_ {Z : State} {a0 : Array Value} (hw : oW_ a0 Z) : own_WI a0 Z c2_ 27 y3_ jdk_42_method_149_code 6 := ⟨rfl, (hV hw 11), (hV hw 12), (hV hw 6), (hV hw 14), by decide⟩
theorem wb4_ {Z : State} {a0 : Array Value} (hw : oW_ a0 Z) : own_WI a0 Z c10_ 9 y4_ jdk_42_method_3_code 2 := ⟨rfl, (hV hw 8), (hV hw 9), (hV hw 6), (hV hw 10), by decide⟩
theorem wb5_ {Z : State} {a0 : Array Value} (hw : oW_ a0 Z) : own_WS a0 Z c2_ 541 y5_ jdk_43_method_13_code 3 (some .boolean) := ⟨(hV hw 200), (hV hw 201), (hV hw 202), (hV hw 203), by decide⟩
theorem wb6_ {Z : State} {a0 : Array Value} (hw : oW_ a0 Z) : own_WS a0 Z c10_ 22 y6_ jdk_33_method_22_code 1 (some (.object c8_)) := ⟨(hV hw 40), (hV hw 41), (hV hw 42), (hV hw 43), by decide⟩
theorem wb7_ {Z : State} {a0 : Array Value} (hw : oW_ a0 Z) : own_WF a0 Z c10_ c0_ 55 (⟨c12_, "size", "()I"⟩ : MethodName) y7_ jdk_38_method_8_code 1 (some .int) := ⟨(hV hw 205), (hV hw 206), (hV hw 207), (hV hw 208), (hV hw 209), (hV hw 210), (hV hw 211), (hV hw 94), (hV hw 49), (hV hw 212), (by first | rfl | simp [Cond.onTables, Cond.keepsFace, Cond.keeps, Cond.steady]), by decide⟩
theorem wb8_ {Z : State} {a0 : Array Value} (hw : oW_ a0 Z) : own_WV a0 Z c10_ c0_ 59 y7_ jdk_38_method_8_code 1 (some .int) := ⟨(hV hw 213), (hV hw 214), (hV hw 215), (hV hw 209), (hV hw 49), (hV hw 212), by decide⟩
theorem wb9_ {Z : State} {a0 : Array Value} (hw : oW_ a0 Z) : own_WS a0 Z c34_ 105 (⟨c37_, "checkIndex", "(IILjava/util/function/BiFunction;)I"⟩ : MethodName) jdk_41_method_11_code 3 (some .int) := ⟨(hV hw 238), (hV hw 239), (hV hw 240), (hV hw 241), by decide⟩
theorem wb10_ {Z : State} {a0 : Array Value} (hw : oW_ a0 Z) : own_WS a0 Z c0_ 118 (⟨c34_, "checkIndex", "(II)I"⟩ : MethodName) jdk_31_method_17_code 2 (some .int) := ⟨(hV hw 234), (hV hw 235), (hV hw 236), (hV hw 237), by decide⟩
theorem wb11_ {Z : State} {a0 : Array Value} (hw : oW_ a0 Z) : own_WV a0 Z c0_ c0_ 123 y8_ jdk_38_method_18_code 2 (some (.object c1_)) := ⟨(hV hw 242), (hV hw 243), (hV hw 245), (hV hw 244), (hV hw 49), (hV hw 246), by decide⟩
theorem wb12_ {Z : State} {a0 : Array Value} (hw : oW_ a0 Z) : own_WF a0 Z c10_ c0_ 60 (⟨c12_, "get", c20_⟩ : MethodName) y9_ jdk_38_method_20_code 2 (some (.object c1_)) := ⟨(hV hw 226), (hV hw 227), (hV hw 228), (hV hw 229), (hV hw 230), (hV hw 231), (hV hw 232), (hV hw 94), (hV hw 49), (hV hw 233), (by first | rfl | simp [Cond.onTables, Cond.keepsFace, Cond.keeps, Cond.steady]), by decide⟩
theorem wb13_ {Z : State} {a0 : Array Value} (hw : oW_ a0 Z) : own_WV a0 Z c10_ c0_ 64 y9_ jdk_38_method_20_code 2 (some (.object c1_)) := ⟨(hV hw 247), (hV hw 248), (hV hw 249), (hV hw 230), (hV hw 49), (hV hw 233), by decide⟩
theorem wb14_ {Z : State} {a0 : Array Value} (hw : oW_ a0 Z) : own_WI a0 Z c4_ 1 (⟨c38_, "<init>", "()V"⟩ : MethodName) jdk_22_method_1_code 1 := ⟨rfl, (hV hw 59), (hV hw 60), (hV hw 63), (hV hw 64), by decide⟩
theorem sn2 {Z : State} {a0 : Array Value} (hw : oW_ a0 Z) : sO_ Z c0_ "elementData" c3_ ≠ sO_ Z c4_ "modCount" "I" := slot_ne (Or.inl (hV hw 70)) (Or.inl (hV hw 67)) dE_ (t := (.array (.object c1_))) (t' := .int) dE_ dE_
theorem sn3 {Z : State} {a0 : Array Value} (hw : oW_ a0 Z) : sO_ Z c0_ "size" "I" ≠ sO_ Z c4_ "modCount" "I" := slot_ne (Or.inl (hV hw 99)) (Or.inl (hV hw 67)) dE_ (t := .int) (t' := .int) dE_ dE_
theorem wb15_ {Z : State} {a0 : Array Value} (hw : oW_ a0 Z) : own_WI a0 Z c0_ 1 (⟨c4_, "<init>", "()V"⟩ : MethodName) jdk_39_method_1_code 1 := ⟨rfl, (hV hw 53), (hV hw 54), (hV hw 57), (hV hw 58), by decide⟩
theorem sn4 {Z : State} {a0 : Array Value} (hw : oW_ a0 Z) : sO_ Z c4_ "modCount" "I" ≠ sO_ Z c0_ "elementData" c3_ := slot_ne (Or.inl (hV hw 67)) (Or.inl (hV hw 70)) dE_ (t := .int) (t' := (.array (.object c1_))) dE_ dE_
theorem sn5 {Z : State} {a0 : Array Value} (hw : oW_ a0 Z) : sO_ Z c0_ "size" "I" ≠ sO_ Z c0_ "elementData" c3_ := slot_ne (Or.inl (hV hw 99)) (Or.inl (hV hw 70)) dE_ (t := .int) (t' := (.array (.object c1_))) dE_ dE_
theorem wb16_ {Z : State} {a0 : Array Value} (hw : oW_ a0 Z) : own_WI a0 Z c10_ 30 y10_ jdk_38_method_2_code 1 := ⟨rfl, (hV hw 50), (hV hw 51), (hV hw 49), (hV hw 52), by decide⟩
theorem wb17_ {Z : State} {a0 : Array Value} (hw : oW_ a0 Z) : own_WI a0 Z c7_ 1 y11_ jdk_30_method_1_code 1 := ⟨rfl, (hV hw 128), (hV hw 78), (hV hw 80), (hV hw 81), by decide⟩
theorem wb18_ {Z : State} {a0 : Array Value} (hw : oW_ a0 Z) : own_WI a0 Z c10_ 44 (⟨c7_, "<init>", "(Ljava/util/List;)V"⟩ : MethodName) prog_24_method_1_code 2 := ⟨rfl, (hV hw 125), (hV hw 126), (hV hw 124), (hV hw 127), by decide⟩
theorem wb19_ {Z : State} {a0 : Array Value} (hw : oW_ a0 Z) : own_WI a0 Z c7_ 15 y10_ jdk_38_method_2_code 1 := ⟨rfl, (hV hw 137), (hV hw 51), (hV hw 49), (hV hw 52), by decide⟩
theorem sn6 {Z : State} {a0 : Array Value} (hw : oW_ a0 Z) : sO_ Z c5_ "lastRet" "I" ≠ sO_ Z c5_ "this$0" c14_ := slot_ne (Or.inl (hV hw 157)) (Or.inr (hV hw 154)) dE_ (t := .int) (t' := (.object c0_)) dE_ dE_
theorem sn7 {Z : State} {a0 : Array Value} (hw : oW_ a0 Z) : sO_ Z c5_ c17_ "I" ≠ sO_ Z c5_ "this$0" c14_ := slot_ne (Or.inl (hV hw 160)) (Or.inr (hV hw 154)) dE_ (t := .int) (t' := (.object c0_)) dE_ dE_
theorem sn8 {Z : State} {a0 : Array Value} (hw : oW_ a0 Z) : sO_ Z c5_ "cursor" "I" ≠ sO_ Z c5_ "this$0" c14_ := slot_ne (Or.inl (hV hw 171)) (Or.inr (hV hw 154)) dE_ (t := .int) (t' := (.object c0_)) dE_ dE_
theorem sn9 {Z : State} {a0 : Array Value} (hw : oW_ a0 Z) : sO_ Z c5_ "this$0" c14_ ≠ sO_ Z c5_ "lastRet" "I" := slot_ne (Or.inr (hV hw 154)) (Or.inl (hV hw 157)) dE_ (t := (.object c0_)) (t' := .int) dE_ dE_
theorem sn10 {Z : State} {a0 : Array Value} (hw : oW_ a0 Z) : sO_ Z c5_ c17_ "I" ≠ sO_ Z c5_ "lastRet" "I" := slot_ne (Or.inl (hV hw 160)) (Or.inl (hV hw 157)) dE_ (t := .int) (t' := .int) dE_ dE_
theorem sn11 {Z : State} {a0 : Array Value} (hw : oW_ a0 Z) : sO_ Z c5_ "cursor" "I" ≠ sO_ Z c5_ "lastRet" "I" := slot_ne (Or.inl (hV hw 171)) (Or.inl (hV hw 157)) dE_ (t := .int) (t' := .int) dE_ dE_
theorem sn12 {Z : State} {a0 : Array Value} (hw : oW_ a0 Z) : sO_ Z c5_ "this$0" c14_ ≠ sO_ Z c5_ c17_ "I" := slot_ne (Or.inr (hV hw 154)) (Or.inl (hV hw 160)) dE_ (t := (.object c0_)) (t' := .int) dE_ dE_
theorem sn13 {Z : State} {a0 : Array Value} (hw : oW_ a0 Z) : sO_ Z c5_ "lastRet" "I" ≠ sO_ Z c5_ c17_ "I" := slot_ne (Or.inl (hV hw 157)) (Or.inl (hV hw 160)) dE_ (t := .int) (t' := .int) dE_ dE_
theorem sn14 {Z : State} {a0 : Array Value} (hw : oW_ a0 Z) : sO_ Z c5_ "cursor" "I" ≠ sO_ Z c5_ c17_ "I" := slot_ne (Or.inl (hV hw 171)) (Or.inl (hV hw 160)) dE_ (t := .int) (t' := .int) dE_ dE_
theorem wb20_ {Z : State} {a0 : Array Value} (hw : oW_ a0 Z) : own_WI a0 Z c0_ 269 (⟨c5_, "<init>", "(Ljava/util/ArrayList;)V"⟩ : MethodName) jdk_49_method_1_code 2 := ⟨rfl, (hV hw 149), (hV hw 150), (hV hw 148), (hV hw 152), by decide⟩
theorem wb21_ {Z : State} {a0 : Array Value} (hw : oW_ a0 Z) : own_WF a0 Z c7_ c0_ 16 (⟨c12_, "iterator", c39_⟩ : MethodName) (⟨c0_, "iterator", c39_⟩ : MethodName) jdk_38_method_55_code 1 (some (.object c36_)) := ⟨(hV hw 138), (hV hw 139), (hV hw 140), (hV hw 141), (hV hw 142), (hV hw 143), (hV hw 144), (hV hw 94), (hV hw 49), (hV hw 145), (by first | rfl | simp [Cond.onTables, Cond.keepsFace, Cond.keeps, Cond.steady]), by decide⟩
theorem wb22_ {Z : State} {a0 : Array Value} (hw : oW_ a0 Z) : own_WF a0 Z c7_ c5_ 22 (⟨c36_, "hasNext", "()Z"⟩ : MethodName) y12_ jdk_49_method_2_code 1 (some .boolean) := ⟨(hV hw 161), (hV hw 162), (hV hw 163), (hV hw 164), (hV hw 165), (hV hw 166), (hV hw 167), (hV hw 168), (hV hw 148), (hV hw 169), (by first | rfl | simp [Cond.onTables, Cond.keepsFace, Cond.keeps, Cond.steady]), by decide⟩
theorem wb23_ {Z : State} {a0 : Array Value} (hw : oW_ a0 Z) : own_WV a0 Z c10_ c7_ 47 y13_ prog_24_method_2_code 5 (some (.object c12_)) := ⟨(hV hw 131), (hV hw 132), (hV hw 134), (hV hw 133), (hV hw 124), (hV hw 135), by decide⟩
theorem wb24_ {Z : State} {a0 : Array Value} (hw : oW_ a0 Z) : own_WI a0 Z c6_ 1 y11_ jdk_30_method_1_code 1 := ⟨rfl, (hV hw 77), (hV hw 78), (hV hw 80), (hV hw 81), by decide⟩
theorem sn15 {Z : State} {a0 : Array Value} (hw : oW_ a0 Z) : sO_ Z c6_ "value" c11_ ≠ sO_ Z c6_ "name" c9_ := slot_ne (Or.inr (hV hw 86)) (Or.inr (hV hw 84)) dE_ (t := (.object c1_)) (t' := (.object c2_)) dE_ dE_
theorem sn16 {Z : State} {a0 : Array Value} (hw : oW_ a0 Z) : sO_ Z c6_ "name" c9_ ≠ sO_ Z c6_ "value" c11_ := slot_ne (Or.inr (hV hw 84)) (Or.inr (hV hw 86)) dE_ (t := (.object c2_)) (t' := (.object c1_)) dE_ dE_
theorem wb25_ {Z : State} {a0 : Array Value} (hw : oW_ a0 Z) : own_WI a0 Z c10_ 33 (⟨c6_, "<init>", c40_⟩ : MethodName) prog_26_method_1_code 3 := ⟨rfl, (hV hw 74), (hV hw 75), (hV hw 73), (hV hw 76), by decide⟩
theorem wb26_ {Z : State} {a0 : Array Value} (hw : oW_ a0 Z) : own_WS a0 Z c0_ 79 (⟨"java/lang/Math", "max", "(II)I"⟩ : MethodName) jdk_29_method_65_code 2 (some .int) := ⟨(hV hw 115), (hV hw 116), (hV hw 117), (hV hw 118), by decide⟩
theorem wb27_ {Z : State} {a0 : Array Value} (hw : oW_ a0 Z) : own_WP a0 Z c0_ 69 3 (⟨c0_, "grow", "(I)[Ljava/lang/Object;"⟩ : MethodName) jdk_38_method_6_code 4 (some (.array (.object c1_))) := ⟨(hV hw 110), (hV hw 111), (hV hw 49), (hV hw 114), (hV hw 112), (hV hw 48), by decide⟩
theorem wb28_ {Z : State} {a0 : Array Value} (hw : oW_ a0 Z) : own_WP a0 Z c0_ 129 3 (⟨c0_, "grow", "()[Ljava/lang/Object;"⟩ : MethodName) jdk_38_method_7_code 1 (some (.array (.object c1_))) := ⟨(hV hw 105), (hV hw 106), (hV hw 49), (hV hw 109), (hV hw 107), (hV hw 48), by decide⟩
theorem sn17 {Z : State} {a0 : Array Value} (hw : oW_ a0 Z) : sO_ Z c4_ "modCount" "I" ≠ sO_ Z c0_ "size" "I" := slot_ne (Or.inl (hV hw 67)) (Or.inl (hV hw 99)) dE_ (t := .int) (t' := .int) dE_ dE_
theorem sn18 {Z : State} {a0 : Array Value} (hw : oW_ a0 Z) : sO_ Z c0_ "elementData" c3_ ≠ sO_ Z c0_ "size" "I" := slot_ne (Or.inl (hV hw 70)) (Or.inl (hV hw 99)) dE_ (t := (.array (.object c1_))) (t' := .int) dE_ dE_
theorem wb29_ {Z : State} {a0 : Array Value} (hw : oW_ a0 Z) : own_WP a0 Z c0_ 131 3 y14_ jdk_38_method_24_code 4 none := ⟨(hV hw 100), (hV hw 101), (hV hw 49), (hV hw 104), (hV hw 102), (hV hw 48), by decide⟩
theorem wb30_ {Z : State} {a0 : Array Value} (hw : oW_ a0 Z) : own_WF a0 Z c10_ c0_ 36 (⟨c12_, "add", c22_⟩ : MethodName) y15_ jdk_38_method_25_code 2 (some .boolean) := ⟨(hV hw 87), (hV hw 88), (hV hw 89), (hV hw 90), (hV hw 91), (hV hw 92), (hV hw 93), (hV hw 94), (hV hw 49), (hV hw 95), (by first | rfl | simp [Cond.onTables, Cond.keepsFace, Cond.keeps, Cond.steady]), by decide⟩
theorem wb31_ {Z : State} {a0 : Array Value} (hw : oW_ a0 Z) : own_WV a0 Z c5_ c5_ 31 (⟨c5_, "checkForComodification", "()V"⟩ : MethodName) jdk_49_method_6_code 1 none := ⟨(hV hw 181), (hV hw 182), (hV hw 184), (hV hw 183), (hV hw 148), (hV hw 185), by decide⟩
theorem sn19 {Z : State} {a0 : Array Value} (hw : oW_ a0 Z) : sO_ Z c5_ "this$0" c14_ ≠ sO_ Z c5_ "cursor" "I" := slot_ne (Or.inr (hV hw 154)) (Or.inl (hV hw 171)) dE_ (t := (.object c0_)) (t' := .int) dE_ dE_
theorem sn20 {Z : State} {a0 : Array Value} (hw : oW_ a0 Z) : sO_ Z c5_ "lastRet" "I" ≠ sO_ Z c5_ "cursor" "I" := slot_ne (Or.inl (hV hw 157)) (Or.inl (hV hw 171)) dE_ (t := .int) (t' := .int) dE_ dE_
theorem sn21 {Z : State} {a0 : Array Value} (hw : oW_ a0 Z) : sO_ Z c5_ c17_ "I" ≠ sO_ Z c5_ "cursor" "I" := slot_ne (Or.inl (hV hw 160)) (Or.inl (hV hw 171)) dE_ (t := .int) (t' := .int) dE_ dE_
theorem wb32_ {Z : State} {a0 : Array Value} (hw : oW_ a0 Z) : own_WF a0 Z c7_ c5_ 28 (⟨c36_, "next", c23_⟩ : MethodName) y16_ jdk_49_method_3_code 3 (some (.object c1_)) := ⟨(hV hw 173), (hV hw 174), (hV hw 175), (hV hw 176), (hV hw 177), (hV hw 178), (hV hw 179), (hV hw 168), (hV hw 148), (hV hw 180), (by first | rfl | simp [Cond.onTables, Cond.keepsFace, Cond.keeps, Cond.steady]), by decide⟩
theorem wb33_ {Z : State} {a0 : Array Value} (hw : oW_ a0 Z) : own_WV a0 Z c7_ c6_ 34 (⟨c6_, "name", "()Ljava/lang/String;"⟩ : MethodName) prog_26_method_5_code 1 (some (.object c2_)) := ⟨(hV hw 189), (hV hw 190), (hV hw 192), (hV hw 191), (hV hw 73), (hV hw 193), by decide⟩
theorem wb34_ {Z : State} {a0 : Array Value} (hw : oW_ a0 Z) : own_WV a0 Z c7_ c2_ 38 y17_ jdk_42_method_66_code 3 (some .boolean) := ⟨(hV hw 194), (hV hw 195), (hV hw 197), (hV hw 196), (hV hw 6), (hV hw 198), by decide⟩
theorem wb35_ {Z : State} {a0 : Array Value} (hw : oW_ a0 Z) : own_WV a0 Z c7_ c6_ 44 (⟨c6_, "value", c23_⟩ : MethodName) prog_26_method_6_code 1 (some (.object c1_)) := ⟨(hV hw 216), (hV hw 217), (hV hw 219), (hV hw 218), (hV hw 73), (hV hw 220), by decide⟩
theorem wb36_ {Z : State} {a0 : Array Value} (hw : oW_ a0 Z) : own_WF a0 Z c7_ c0_ 47 (⟨c12_, "add", c22_⟩ : MethodName) y15_ jdk_38_method_25_code 2 (some .boolean) := ⟨(hV hw 221), (hV hw 88), (hV hw 89), (hV hw 90), (hV hw 91), (hV hw 92), (hV hw 93), (hV hw 94), (hV hw 49), (hV hw 95), (by first | rfl | simp [Cond.onTables, Cond.keepsFace, Cond.keeps, Cond.steady]), by decide⟩
theorem wb37_ {Z : State} {a0 : Array Value} (hw : oW_ a0 Z) : own_WV a0 Z c10_ c2_ 51 y17_ jdk_42_method_66_code 3 (some .boolean) := ⟨(hV hw 204), (hV hw 195), (hV hw 197), (hV hw 196), (hV hw 6), (hV hw 198), by decide⟩
theorem wb38_ {Z : State} {a0 : Array Value} (hw : oW_ a0 Z) : own_WV a0 Z c10_ c0_ 54 y15_ jdk_38_method_25_code 2 (some .boolean) := ⟨(hV hw 223), (hV hw 224), (hV hw 225), (hV hw 91), (hV hw 49), (hV hw 95), by decide⟩
section OwnCold
variable {p : Program} {l : Launch} {e : Env} {R : Room} {s : State} {m : MethodId} {args : Array Value} {below : List Frame} {meth : Method} {c : Code} {T : State} {locs : List Loc} {cells slots : Nat} {Z : State} {a0 : Array Value} {h h' : Heap}
def own_S (N : Int32) (vs : List Value) : Prop := (N = (0 : Int32) ∧ vs = []) ∨ (∃ x0 : Int32, N = (1 : Int32) ∧ vs = [.int x0]) ∨ (∃ x0 x1 : Int32, N = (2 : Int32) ∧ vs = [.int x0, .int x1]) ∨ (∃ x0 x1 x2 : Int32, N = (3 : Int32) ∧ vs = [.int x0, .int x1, .int x2])
def own_Str (Z : State) (h : Heap) (x : Addr) (vs : List Value) : Prop := ∃ (t : Addr) (k : ClassId) (N : Int32), Exa Z h x c2_ ∧ Fld Z h x c2_ "coder" "B" oZ ∧ Fld Z h x c2_ "value" "[B" (.ref t) ∧ Arv Z h t k .byte N vs oZ ∧ own_S N vs
theorem own_Str.keep {x : Addr} {vs : List Value} (F : own_Str Z h x vs) (K : Keep h h' []) : own_Str Z h' x vs := by
  obtain ⟨t, k, N, h1, h2, h3, h4, h5⟩ := F
  exact ⟨t, k, N, h1.keep K, h2.keep K nin0, h3.keep K nin0, h4.keep K nin0, h5⟩
theorem own_Str.exa {x : Addr} {vs : List Value} (F : own_Str Z h x vs) : Exa Z h x c2_ := by
  obtain ⟨t, k, N, h1, h2, h3, h4, h5⟩ := F
  exact h1
theorem own_Str.lt {x : Addr} {vs : List Value} (F : own_Str Z h x vs) : x < h.size := by
  obtain ⟨t, k, N, h1, h2, h3, h4, h5⟩ := F
  exact h1.lt
def own_I (Z : State) (vm : Vm) (h : Heap) : Prop := IB Z vm [] ∨ ∃ (a b : Addr) (k : ClassId), Lit (Z.setVm vm) c2_ 7 a ∧ Exa Z h a c2_ ∧ Fld Z h a c2_ "coder" "B" oZ ∧ Fld Z h a c2_ "value" "[B" (.ref b) ∧ Arv Z h b k .byte (0 : Int32) [] oZ
theorem own_I.keep {vm : Vm} (I : own_I Z vm h) (K : Keep h h' []) : own_I Z vm h' := by
  rcases I with q | ⟨a, b, k, q1, q2, q3, q4, q5⟩
  · exact Or.inl q
  · exact Or.inr ⟨a, b, k, q1, q2.keep K, q3.keep K nin0, q4.keep K nin0, q5.keep K nin0⟩
theorem own_Lw {vm' : Vm} {a : Addr} (L : Lit (Z.setVm s.vm) c2_ 7 a) (hW : s.WarmedH vm') : Lit (Z.setVm vm') c2_ 7 a := by
  have L1 : Lit (s.setVm s.vm) c2_ 7 a := L
  have h1 : (s.setVm s.vm).Warmed39 vm' := hW.wide
  have L2 := Lit.stays L1 h1
  exact L2
theorem own_I.warm {vm' : Vm} (I : own_I Z s.vm h) (hW : s.WarmedH vm') : own_I Z vm' h := by
  rcases I with ⟨more, e1, e2⟩ | ⟨a, b, k, q1, q2, q3, q4, q5⟩
  · exact Or.inl ⟨more, hW.interned_eq.trans e1, e2⟩
  · exact Or.inr ⟨a, b, k, own_Lw q1 hW, q2, q3, q4, q5⟩
def own_PostI (s Z : State) (Q : Option Value → Heap → List Loc → Prop) (C S : Nat) : State → Outcome → Prop := fun u o => ∃ v L, o = .returned v ∧ (Q v u.heap L ∧ own_I Z u.vm u.heap) ∧ ReturnedEndW s o u L C S
theorem own_retVI {vm₁ : Vm} {Q : Option Value → Heap → List Loc → Prop} {C S pc : Nat} {Ls : Array Slot} (X : Stand p l e R (s.setVm vm₁) m args below meth c T locs cells slots) (hlk : meth.locks = false) (hx : p.tables.exec = Jvm.exec) (hret : meth.sig.returnType = none) (hd : decode c.code pc = .ok (.return_, 1)) {n : Nat} (hSi : s.Since vm₁ n) (hn : n ≤ T.heap.size) (hq : Q none T.heap locs) (hI : own_I Z (s.setVm vm₁).vm T.heap) (hC : cells ≤ C) (hS : slots ≤ S) :
    own_Go p e below (own_PostI s Z Q C S) (T.setTop (mkF m pc Ls [])) := by
  obtain ⟨fs, hr, hrun, hended, h1, h2, h3, h4⟩ := X.leaveW hSi hn (v := none) (fun _ => rfl) hlk
  exact ⟨_, _, X.returnOut hx hret hd hr, hrun, hended, _, _, rfl, ⟨hq, hI.warm X.warmed⟩, h1, h2, h3, h4.mono hC hS⟩
theorem own_retRI {vm₁ : Vm} {Q : Option Value → Heap → List Loc → Prop} {C S pc : Nat} {Ls : Array Slot} {rest : List Value} (X : Stand p l e R (s.setVm vm₁) m args below meth c T locs cells slots) (hlk : meth.locks = false) (hx : p.tables.exec = Jvm.exec) {t : FieldType} (hret : meth.sig.returnType = some t) {w : Value} (ht : t.isReference = true) (hn' : narrow t w = w) (hw : w.isRef = true) (hd : decode c.code pc = .ok (.areturn, 1)) {n : Nat} (hSi : s.Since vm₁ n) (hn : n ≤ T.heap.size) (hq : Q (some w) T.heap locs) (hI : own_I Z (s.setVm vm₁).vm T.heap) (hC : cells ≤ C) (hS : slots ≤ S) :
    own_Go p e below (own_PostI s Z Q C S) (T.setTop (mkF m pc Ls (w :: rest))) := by
  obtain ⟨fs, hr, hrun, hended, h1, h2, h3, h4⟩ := X.leaveW hSi hn (v := some w) (fun h => by rw [hret] at h; cases h) hlk
  exact ⟨_, _, retOut X hx (t := t) (i := .areturn) hret hn' (Or.inr (Or.inr (Or.inr (Or.inr ⟨rfl, ht, hw⟩)))) hd hr, hrun, hended, _, _, rfl, ⟨hq, hI.warm X.warmed⟩, h1, h2, h3, h4.mono hC hS⟩
theorem own_backI {y : MethodName} {bytes : ByteArray} {maxL : Nat} {ret : Option FieldType} {rm : Room} {len W : Nat} {as' : Array Value} {Q : Option Value → Heap → List Loc → Prop}
    (hM : MetFree l y (head1 [Jvm.Cond.code y bytes maxL ret] rm) (fun a U => a = as' ∧ (Z.Warmed39 U.vm ∧ own_I Z U.vm h) ∧ U.heap = h) (fun _ _ _ _ _ => True) (fun _ U o U' => ∃ v L, o = .returned v ∧ (Q v U'.heap L ∧ own_I Z U'.vm U'.heap) ∧ ReturnedEndW U o U' L rm.cells rm.slots))
    (hZ : Z.Warmed39 s.vm) (hI : own_I Z s.vm h) (wc : (Jvm.Cond.code y bytes maxL ret).before a0 Z = true) (wz : (Jvm.Cond.initialized y.cls).before a0 Z = true) (hf : rm.frames + 1 ≤ R.frames) (hl : W + (maxL + 11) + rm.locals ≤ R.locals) :
    BackS l R p e below s args y len W (fun A a => a = as' ∧ A.U.heap = h ∧ A.cells + rm.cells ≤ R.cells ∧ A.slots + rm.slots ≤ R.slots)
      (fun A _ v B => ∃ L, (Q v B.U.heap L ∧ own_I Z B.U.vm B.U.heap) ∧ B.locs = A.locs ++ L ∧ B.cells = A.cells + rm.cells ∧ B.slots = A.slots + rm.slots) :=
  BackS.of_freeW (bytes := bytes) (maxL := maxL) (ret := ret) (E := fun _ _ o t L k n => k = rm.cells ∧ n = rm.slots ∧ ∃ v, o = .returned v ∧ (Q v t.heap L ∧ own_I Z t.vm t.heap)) hM hf hl
    (fun m meth c A a Y hp => have hU : Z.Warmed39 A.U.vm := wtrans hZ Y.warmed
      ⟨by show (Jvm.Cond.and _ .tt).before a A.U = true; rw [Cond.before_and, mv hU wc]; rfl, mv hU wc, mv hU wz, hp.2.2.1, hp.2.2.2⟩)
    (fun m meth c A a g mk Y hp => ⟨hp.1, ⟨wtrans hZ Y.warmed, hI.warm Y.warmed⟩, hp.2.1⟩) (fun _ _ _ _ _ _ _ _ _ => trivial)
    (fun _ _ _ _ ⟨v, L, h1, h2, h3⟩ => ⟨L, _, _, h3, rfl, rfl, v, h1, h2⟩)
    (fun m meth c A a g mk v t L k n Y hp _ _ ⟨e1, e2, v', e3, e4⟩ => by cases e3; subst e1 e2; exact ⟨L, e4, rfl, rfl, rfl⟩)
theorem own_callSI (X : Stand p l e R s m args below meth c T locs cells slots) (hx : p.tables.exec = Jvm.exec) (hZ : Z.Warmed39 s.vm) (hI : own_I Z s.vm h) {own : String} {index : Nat} {y : MethodName} (hown : s.vm.findClass own = some m.cls) {bytes : ByteArray} {maxL : Nat} {ret : Option FieldType} {rm : Room} {as' : Array Value} {Q : Option Value → Heap → List Loc → Prop} (w1 : (Jvm.Cond.methodLink own index y).before a0 Z = true) (w2 : (Jvm.Cond.static y).before a0 Z = true) (w3 : (Jvm.Cond.initialized y.cls).before a0 Z = true) (w4 : (Jvm.Cond.code y bytes maxL ret).before a0 Z = true) (hy : y.cls ≠ c25_ ∧ y.cls ≠ c26_)
    (hM : MetFree l y (head1 [Jvm.Cond.code y bytes maxL ret] rm) (fun a U => a = as' ∧ (Z.Warmed39 U.vm ∧ own_I Z U.vm h) ∧ U.heap = h) (fun _ _ _ _ _ => True) (fun _ U o U' => ∃ v L, o = .returned v ∧ (Q v U'.heap L ∧ own_I Z U'.vm U'.heap) ∧ ReturnedEndW U o U' L rm.cells rm.slots)) (eT : T.heap = h) (W : Nat) {g : JFrame} (hg : g.method = m) {ml : Nat} (hml : c.maxLocals = ml) (argsL rest : List Value) (ha : argsL.toArray = as') (hlen : ∀ sig, parseMethodDescriptor y.desc = some sig → argsL.length = sig.parameters.length) (hstack : g.stack = argsL.reverse ++ rest) (hd : decode c.code g.pc = .ok (.invokestatic index, 3)) (hf : rm.frames + 1 ≤ R.frames := by decide) (hl : W + (maxL + 11) + rm.locals ≤ R.locals := by decide) (hc : cells + rm.cells ≤ R.cells := by decide) (hs : slots + rm.slots ≤ R.slots := by decide) (hW : 2 * g.monitorRoom + (rest.map fun v => v.category).sum ≤ W := by show 2 * 0 + _ ≤ _; exact Nat.le_of_eq rfl) (hsz : g.locals.size = ml := by rfl) :
    ∃ (T' : State) (L : List Loc) (v : Option Value), Stand p l e R (s.setVm T'.vm) m args below meth c T' (locs ++ L) (cells + rm.cells) (slots + rm.slots) ∧ s.Since T'.vm T'.heap.size ∧ T.heap.size ≤ T'.heap.size ∧ (Q v T'.heap L ∧ own_I Z T'.vm T'.heap) ∧ ∀ t, Steps p.tables e below (T'.setTop { g with pc := g.pc + 3, stack := v.toList ++ rest }) t → Steps p.tables e below (T.setTop g) t := by
  obtain ⟨v, _, ⟨T', L', k', n'⟩, -, X', hSi, hgr, ⟨L, hQ, h2, h3, h4⟩, st⟩ := callSS X hx (y := y) hown (mvT hZ w1) (mvT hZ w2) (mvT hZ w3) (mvT hZ w4) hy (own_backI (W := W) hM hZ hI w4 w3 hf hl) (g := g) hg (hsz.trans hml.symm) (argsL := argsL) (rest := rest) hlen hstack hW hd (fun _ _ => ⟨ha, eT, hc, hs⟩)
  dsimp only [Pt.U, Pt.locs, Pt.cells, Pt.slots] at X' h2 h3 h4 st hQ hSi hgr
  subst h2 h3 h4
  exact ⟨T', L, v, X', hSi, hgr, hQ, fun t k => st.trans k⟩
theorem own_callII (X : Stand p l e R s m args below meth c T locs cells slots) (hx : p.tables.exec = Jvm.exec) (hZ : Z.Warmed39 s.vm) (hI : own_I Z s.vm h) {own : String} {index : Nat} {y : MethodName} (hy1 : y.name = "<init>") (hown : s.vm.findClass own = some m.cls) {bytes : ByteArray} {maxL : Nat} {rm : Room} {as' : Array Value} {Q : Option Value → Heap → List Loc → Prop} (w1 : (Jvm.Cond.methodLink own index y).before a0 Z = true) (w2 : (Jvm.Cond.instanceMethod y).before a0 Z = true) (w3 : (Jvm.Cond.initialized y.cls).before a0 Z = true) (w4 : (Jvm.Cond.code y bytes maxL none).before a0 Z = true) (hy : y.cls ≠ c25_ ∧ y.cls ≠ c26_)
    (hM : MetFree l y (head1 [Jvm.Cond.code y bytes maxL none] rm) (fun a U => a = as' ∧ (Z.Warmed39 U.vm ∧ own_I Z U.vm h) ∧ U.heap = h) (fun _ _ _ _ _ => True) (fun _ U o U' => ∃ v L, o = .returned v ∧ (Q v U'.heap L ∧ own_I Z U'.vm U'.heap) ∧ ReturnedEndW U o U' L rm.cells rm.slots)) (eT : T.heap = h) (W : Nat) {g : JFrame} (hg : g.method = m) {ml : Nat} (hml : c.maxLocals = ml) (a : Addr) (argsL rest : List Value) (ha : (.ref a :: argsL).toArray = as') (hlen : ∀ sig, parseMethodDescriptor y.desc = some sig → argsL.length = sig.parameters.length) (hstack : g.stack = argsL.reverse ++ .ref a :: rest) (hd : decode c.code g.pc = .ok (.invokespecial index, 3)) (hf : rm.frames + 1 ≤ R.frames := by decide) (hl : W + (maxL + 11) + rm.locals ≤ R.locals := by decide) (hc : cells + rm.cells ≤ R.cells := by decide) (hs : slots + rm.slots ≤ R.slots := by decide) (hW : 2 * g.monitorRoom + (rest.map fun v => v.category).sum ≤ W := by show 2 * 0 + _ ≤ _; exact Nat.le_of_eq rfl) (hsz : g.locals.size = ml := by rfl) :
    ∃ (T' : State) (L : List Loc) (v : Option Value), Stand p l e R (s.setVm T'.vm) m args below meth c T' (locs ++ L) (cells + rm.cells) (slots + rm.slots) ∧ s.Since T'.vm T'.heap.size ∧ T.heap.size ≤ T'.heap.size ∧ (Q v T'.heap L ∧ own_I Z T'.vm T'.heap) ∧ ∀ t, Steps p.tables e below (T'.setTop { g with pc := g.pc + 3, stack := v.toList ++ rest }) t → Steps p.tables e below (T.setTop g) t := by
  obtain ⟨v, _, ⟨T', L', k', n'⟩, -, X', hSi, hgr, ⟨L, hQ, h2, h3, h4⟩, st⟩ := X.specialBackS hx (y := y) hy1 hown (mvT hZ w1) (mvT hZ w2) (mvT hZ w4) hy (own_backI (W := W) hM hZ hI w4 w3 hf hl) (g := g) hg (hsz.trans hml.symm) (Steps.refl _) (a := a) (argsL := argsL) (rest := rest) hlen hstack hW hd (fun _ _ => ⟨ha, eT, hc, hs⟩)
  dsimp only [Pt.U, Pt.locs, Pt.cells, Pt.slots] at X' h2 h3 h4 st hQ hSi hgr
  subst h2 h3 h4
  exact ⟨T', L, v, X', hSi, hgr, hQ, fun t k => st.trans k⟩
theorem own_ccI {G : State → Outcome → Prop} {vm0 : Vm} {k0 : Nat} {own : String} {g : JFrame} {c1 s1 : Nat} {Q : Option Value → Heap → List Loc → Prop} {f : Option Value → JFrame} (hS : s.Since vm0 k0) (hk : k0 ≤ T.heap.size) (hZ : Z.Warmed39 (s.setVm vm0).vm) (hown : (s.setVm vm0).vm.findClass own = some m.cls)
    (h1 : ∃ (T' : State) (L : List Loc) (v : Option Value), Stand p l e R ((s.setVm vm0).setVm T'.vm) m args below meth c T' (locs ++ L) c1 s1 ∧ (s.setVm vm0).Since T'.vm T'.heap.size ∧ T.heap.size ≤ T'.heap.size ∧ (Q v T'.heap L ∧ own_I Z T'.vm T'.heap) ∧ ∀ t, Steps p.tables e below (T'.setTop (f v)) t → Steps p.tables e below (T.setTop g) t)
    (k : ∀ (T' : State) (L : List Loc) (v : Option Value), Stand p l e R (s.setVm T'.vm) m args below meth c T' (locs ++ L) c1 s1 → s.Since T'.vm T'.heap.size → Z.Warmed39 (s.setVm T'.vm).vm → (s.setVm T'.vm).vm.findClass own = some m.cls → Q v T'.heap L → own_I Z (s.setVm T'.vm).vm T'.heap → own_Go p e below G (T'.setTop (f v))) : own_Go p e below G (T.setTop g) := by
  obtain ⟨T', L, v, X', hS', hgr, ⟨hQ, hI⟩, st⟩ := h1
  obtain ⟨X2, r2, r3, r4⟩ := rebS hS hk X' hS' hgr hZ hown
  exact own_by st (k T' L v X2 r2 r3 r4 hQ hI)
theorem own_ldcI (X : Stand p l e R (s.setVm s.vm) m args below meth c T locs cells slots) (hx : p.tables.exec = Jvm.exec) (hZ : Z.Warmed39 s.vm) (hown : s.vm.findClass c2_ = some m.cls) (w : (Jvm.Cond.stringLink c2_ 7 "").before a0 Z = true) (wS : ∀ a ∈ Bundle.stringAtoms, a.before a0 Z = true)
    (eT : T.heap = h) (N : Fr s.heap.size locs) (hkeep : ∀ (b : Addr) (cl : Cell), Z.heap[b]? = some cl → s.heap[b]? = some cl) (I : own_I Z s.vm h) (hh : Jvm.Lit.constHeld Z c2_ 7) (hcw : Jvm.Lit.compactW.before a0 Z = true)
    {g : JFrame} (hg : g.method = m) (hd : decode c.code g.pc = .ok (.ldc 7, 2)) (hc : cells + 2 ≤ R.cells) (hl' : slots + 4 ≤ R.slots) :
    ∃ (a : Addr) (T' : State) (h' : Heap) (k1 : Nat) (b : Addr) (k : ClassId), Stand p l e R (s.setVm T'.vm) m args below meth c T' locs (cells + 2) (slots + 4) ∧ T'.heap = h' ∧ Ext h h' ∧ s.Since T'.vm k1 ∧ k1 ≤ h'.size ∧ Z.Warmed39 (s.setVm T'.vm).vm ∧ (s.setVm T'.vm).vm.findClass c2_ = some m.cls ∧
      Exa Z h' a c2_ ∧ Fld Z h' a c2_ "coder" "B" oZ ∧ Fld Z h' a c2_ "value" "[B" (.ref b) ∧ Arv Z h' b k .byte (0 : Int32) [] oZ ∧ Lit (s.setVm T'.vm) c2_ 7 a ∧
      ∀ target, Steps p.tables e below (T'.setTop { g with pc := g.pc + 2, stack := .ref a :: g.stack }) target → Steps p.tables e below (T.setTop g) target := by
  rcases I with I | ⟨a, b, k, q1, q2, q3, q4, q5⟩
  · obtain ⟨a, T', h', k1, b, k, r1, r2, r3, r4, r5, r6, r7, r8, r9, r10, r11, r12, r13, r14, r15, r16⟩ := ldcSVL (n := 0) X hx hZ hown w wS eT ((State.WarmedH.refl s).since 0) (Nat.zero_le _) N hkeep I (by simp) hh hcw (vs := []) (z := (0 : Int32)) ⟨fun c hc => by simp at hc, rfl⟩ dE_ dE_ hg hd dE_ dE_ hc hl'
    exact ⟨a, T', h', k1, b, k, r1, r2, r3, r4, r5, r6, r7, r8, r9, r10, r11, r15, r16⟩
  · have X1 : Stand p l e R s m args below meth c T locs cells slots := X
    have hW := X1.warmed
    refine ⟨a, T, h, 0, b, k, (X1.mono (Nat.le_add_right _ _) (Nat.le_add_right _ _)).retabled hW.wide, eT, ⟨Nat.le_refl _, fun _ _ q => q⟩, hW.since 0, Nat.zero_le _, wtrans hZ hW, ?_, q2, q3, q4, q5, own_Lw q1 hW, ldcAgain X hx hZ hown w q1 hg hd⟩
    rw [show (s.setVm T.vm).vm = T.vm from rfl, hW.wide.alike.findClass]; exact hown
end OwnCold

theorem own_wS {Z : State} {a0 : Array Value} (hw : oW_ a0 Z) : ∀ d ∈ Bundle.stringAtoms, d.before a0 Z = true := by
  intro d hd
  simp only [Bundle.stringAtoms, List.mem_cons, List.not_mem_nil, or_false] at hd
  rcases hd with rfl | rfl | rfl | rfl | rfl | rfl | rfl
  · exact (hV hw 6)
  · exact (hV hw 5)
  · exact (hV hw 19)
  · exact (hV hw 20)
  · exact (hV hw 21)
  · exact (hV hw 22)
  · exact (hV hw 23)

theorem own_m3 (p : Int32) : (p &&& (3 : Int32)) = (0 : Int32) ∨ (p &&& (3 : Int32)) = (1 : Int32) ∨ (p &&& (3 : Int32)) = (2 : Int32) ∨ (p &&& (3 : Int32)) = (3 : Int32) := by
  have a1 := c_mask p (3 : Int32) 2 dE_ dE_
  generalize p &&& (3 : Int32) = u at *
  have e0 : (0 : Int32).toInt = 0 := by decide
  have e1 : (1 : Int32).toInt = 1 := by decide
  have e2 : (2 : Int32).toInt = 2 := by decide
  have e3 : (3 : Int32).toInt = 3 := by decide
  simp only [← Int32.toInt_inj, e0, e1, e2, e3]
  omega
theorem own_u16 (u : UInt16) : (u.toUInt32.toInt32).toInt = u.toNat := by
  have hu := u.toNat_lt
  show ((u.toUInt32).toBitVec).toInt = _
  rw [BitVec.toInt_eq_toNat_of_lt]
  · show ((u.toUInt32).toNat : Int) = _
    simp
  · show 2 * (u.toUInt32).toNat < _
    simp
    omega
theorem own_c255 (x : Int32) : ¬ ((255 : Int32) < (nar .char ((x &&& (255 : Int32)).toUInt32.toUInt16.toUInt32.toInt32))) := by
  show ¬ ((255 : Int32) < ((x &&& (255 : Int32)).toUInt32.toUInt16.toUInt32.toInt32).toUInt32.toUInt16.toUInt32.toInt32)
  rw [show ((x &&& (255 : Int32)).toUInt32.toUInt16.toUInt32.toInt32).toUInt32.toUInt16 = (x &&& (255 : Int32)).toUInt32.toUInt16 from by
    apply UInt16.toNat_inj.mp
    simp]
  rw [Int32.lt_iff_toInt_lt, own_u16, show (255 : Int32).toInt = 255 from by decide]
  have h1 : (x &&& (255 : Int32)).toUInt32.toNat = x.toUInt32.toNat % 256 := by
    show (x.toUInt32 &&& 255).toNat = _
    rw [UInt32.toNat_and]
    exact Nat.and_two_pow_sub_one_eq_mod (n := 8) _
  rw [UInt32.toNat_toUInt16, h1]
  omega

theorem d3_0 : dC0_ 0 (.aload_n 0, 1) := by decide +kernel
theorem d3_1 : dC0_ 1 (.invokespecial 1, 3) := by decide +kernel
theorem d3_4 : dC0_ 4 (.iload_n 3, 1) := by decide +kernel
theorem d3_5 : dC0_ 5 (.ifCond .ne 22, 3) := by decide +kernel
theorem d3_8 : dC0_ 8 (.aload_n 0, 1) := by decide +kernel
theorem d3_9 : dC0_ 9 (.ldc 7, 2) := by decide +kernel
theorem d3_11 : dC0_ 11 (.getfield 9, 3) := by decide +kernel
theorem d3_14 : dC0_ 14 (.putfield 9, 3) := by decide +kernel
theorem d3_17 : dC0_ 17 (.aload_n 0, 1) := by decide +kernel
theorem d3_18 : dC0_ 18 (.ldc 7, 2) := by decide +kernel
theorem d3_20 : dC0_ 20 (.getfield 15, 3) := by decide +kernel
theorem d3_23 : dC0_ 23 (.putfield 15, 3) := by decide +kernel
theorem d3_26 : dC0_ 26 (.return_, 1) := by decide +kernel
theorem r3_0_0 : oDec jdk_42_method_149_code [(0, .aload_n 0, 1)] := by decide +kernel
theorem r3_4_4 : oDec jdk_42_method_149_code [(4, .iload_n 3, 1)] := by decide +kernel
theorem r3_8_8 : oDec jdk_42_method_149_code [(8, .aload_n 0, 1)] := by decide +kernel
theorem r3_17_17 : oDec jdk_42_method_149_code [(17, .aload_n 0, 1)] := by decide +kernel
theorem pn_3 : plainName "java/lang/String" = true := by first | (simp [plainName, overriddenIn]; done) | decide +kernel
theorem ef_3n (m : MethodId) (x0 x1 : Addr) (x2 x3 : Int32) : entryFrame m #[(.ref x0), (.ref x1), (.int x2), (.int x3), .null] 6 = mkF m 0 #[rv x0, rv x1, iv x2, iv x3, .val .null, oU] [] := by first | (simp [entryFrame, mkF, argsToLocals, Value.category]; done) | rfl
def Q3_z (Z : State) (x ca : Addr) (h0 : Heap) (n0 : Nat) (v : Option Value) (h : Heap) (L : List Loc) : Prop := ∃ b : Addr, ∃ kb : ClassId, v = none ∧ Fr n0 L ∧ Keep h0 h [x] ∧ Exa Z h x c2_ ∧ Fld Z h x c2_ "value" "[B" (.ref b) ∧ Fld Z h x c2_ "coder" "B" oZ ∧ Arv Z h b kb .byte (0 : Int32) [] oZ
set_option maxRecDepth 65536 in
set_option maxHeartbeats 40000000 in
theorem rm3_z (l : Launch) (Z : State) (a0 : Array Value) (hw : oW_ a0 Z) (ws : List Jvm.Cond) (x ca : Addr) (h0 : Heap) (n0 : Nat) (Z0 : n0 ≤ h0.size) (E_x : Exa Z h0 x c2_) (F_value_x : Fld Z h0 x c2_ "value" "[B" .null) (F_coder_x : Fld Z h0 x c2_ "coder" "B" oZ) (g_x : n0 ≤ x) (OZ : Old Z n0 h0) (hCH : Jvm.Lit.constHeld Z c2_ 7) (hcw : Jvm.Lit.compactW.before a0 Z = true) :
    MetFree l y3_ (head1 (Jvm.Cond.code y3_ jdk_42_method_149_code 6 none :: ws) (rM_ 1 2 4 12)) (fun a U => a = #[(.ref x), (.ref ca), oZ, oZ, .null] ∧ (Z.Warmed39 U.vm ∧ own_I Z U.vm h0) ∧ U.heap = h0) (fun _ _ _ _ _ => True) (fun _ U o U' => ∃ v L, o = .returned v ∧ (Q3_z Z x ca h0 n0 v U'.heap L ∧ own_I Z U'.vm U'.heap) ∧ ReturnedEndW U o U' L (rM_ 1 2 4 12).cells (rM_ 1 2 4 12).slots) := by
  refine MetFree.of_bodySF (plainFor_of_name pn_3) hisR ?_
  intro p e s m args below meth c s₁ Bd hml0 hP hK
  obtain ⟨rfl, ⟨hZ, hI⟩, hh⟩ := hP
  have hx := Bd.exec
  have hby := Bd.bytes
  have hml : c.maxLocals = 6 := hml0
  have hown : s.vm.findClass c2_ = some m.cls := findClass_of_methodNamed Bd.named
  have hnm := (name_of_methodNamed Bd.named Bd.method).1
  have X0 : Stand p l e (rM_ 1 2 4 12) s m #[(.ref x), (.ref ca), oZ, oZ, .null] below meth c s₁ [] 0 0 := Stand.of_body Bd
  have e0 : s₁.heap = h0 := by rw [← hh, Bd.state]; rfl
  have K0 : Keep h0 h0 [x] := Keep.refl h0 _
  replace X0 : Stand p l e (rM_ 1 2 4 12) (s.setVm s.vm) m #[(.ref x), (.ref ca), oZ, oZ, .null] below meth c s₁ [] 0 0 := X0
  replace hZ : Z.Warmed39 (s.setVm s.vm).vm := hZ
  replace hown : (s.setVm s.vm).vm.findClass c2_ = some m.cls := hown
  replace hI : own_I Z (s.setVm s.vm).vm h0 := hI
  replace N0 : Fr h0.size [] := Fr.nil _
  have Z0' := Z0
  have H : oH_ p _ m c Z _ _ _ := ⟨hx, hZ, hown, hml, hby⟩
  change own_Go p e below (own_PostI s Z _ _ _) _
  refine own_by (fun t k => castTop (ef_3n m x ca (0 : Int32) (0 : Int32)) k) ?_
  refine oG X0 H r3_0_0 1 #[rv x, rv ca, iv (0 : Int32), iv (0 : Int32), .val .null, oU] [(.ref x)] ?_
  refine own_c1 (initO X0 hx hZ hown (hV hw 15) (hV hw 16) (hV hw 17) e0 rfl (by rw [hml]; rfl) rfl (hb hby d3_1) dE_ (W := 0) (by show 2 * 0 + _ ≤ _; exact Nat.le_of_eq rfl) dE_) fun T2 X2 e2 => ?_
  refine oIN X2 H r3_4_4 d3_5 #[rv x, rv ca, iv (0 : Int32), iv (0 : Int32), .val .null, oU] [] rfl ((if0 _ _).trans (teq (by decide : (0 : Int32) = (0 : Int32))).2) ?_
  refine oH X2 H r3_8_8 9 [(.ref x)] ?_
  obtain ⟨sa, T3, _, _, sb, ks, X3, e3, E3, hSi, hk2, hZ1, hown1, E_sa, F_coder_sa, F_value_sa, V_sb, hLit, st3⟩ := own_ldcI X2 hx hZ hown (hV hw 18) (own_wS hw) e2 (by rw [hh]; exact N0) (fun b cl q => by rw [hh]; exact OZ.2.2 b cl q) hI hCH hcw (g := (mkF m 9 #[rv x, rv ca, iv (0 : Int32), iv (0 : Int32), .val .null, oU] [(.ref x)])) rfl (hb hby d3_9) dE_ dE_
  replace E_x := E_x.ext E3
  replace F_value_x := F_value_x.ext E3
  replace F_coder_x := F_coder_x.ext E3
  replace K0 := K0.ext E3
  replace hk := hk2
  replace hZ := hZ1
  replace hown := hown1
  have H : oH_ p _ m c Z _ _ _ := ⟨hx, hZ, hown, hml, hby⟩
  replace N0 : Fr n0 _ := fun y hy => Nat.le_trans Z0' (N0 y hy)
  have ne_sa_x : sa ≠ x := Fld.ne F_value_sa F_value_x (fun q => by cases q)
  have ne_x_sb : x ≠ sb := own_nev E_x (hV hw 5) V_sb
  refine own_by st3 ?_
  show own_Go p e below _ (T3.setTop (mkF m 11 #[rv x, rv ca, iv (0 : Int32), iv (0 : Int32), .val .null, oU] [(.ref sa), (.ref x)]))
  refine oGf X3 H (hV hw 24) e3 F_value_sa d3_11 fun T4 X4 e4 => ?_
  refine own_c2 (putF X4 hx hZ hown (host := "") (Or.inl (hV hw 24)) Via.refl e4 F_value_x E_x (Or.inr ⟨(hV hw 20), rfl, hnm⟩) (hV hw 5) (ty := (.array .byte)) dE_ rfl rfl rfl rfl (hb hby d3_14)) fun T5 h5 X5 e5 W5 => ?_
  replace F_value_x := F_value_x.same W5
  replace E_x := E_x.wr W5
  replace F_coder_x := F_coder_x.other W5 (Or.inr (sn0 hw))
  replace hk := Nat.le_trans hk (Keep.of_wr W5).1
  replace E_sa := E_sa.wr W5
  replace F_coder_sa := F_coder_sa.other W5 (Or.inl ne_sa_x)
  replace F_value_sa := F_value_sa.other W5 (Or.inl ne_sa_x)
  replace V_sb := V_sb.other W5 (Ne.symm ne_x_sb)
  replace K0 := K0.wr W5 (Or.inl (List.mem_of_getElem? (i := 0) rfl))
  replace N0 := Fr.snoc X5 N0 g_x
  refine oG X5 H r3_17_17 18 #[rv x, rv ca, iv (0 : Int32), iv (0 : Int32), .val .null, oU] [(.ref x)] ?_
  refine own_by (ldcAgain X5 hx hZ hown (hV hw 18) hLit (g := (mkF m 18 #[rv x, rv ca, iv (0 : Int32), iv (0 : Int32), .val .null, oU] [(.ref x)])) rfl (hb hby d3_18)) ?_
  show own_Go p e below _ (T5.setTop (mkF m 20 #[rv x, rv ca, iv (0 : Int32), iv (0 : Int32), .val .null, oU] [(.ref sa), (.ref x)]))
  refine oGf X5 H (hV hw 25) e5 F_coder_sa d3_20 fun T6 X6 e6 => ?_
  refine own_c2 (putFN X6 hx hZ hown (hV hw 25) Via.refl e6 F_coder_x E_x (Or.inr ⟨(hV hw 21), rfl, hnm⟩) (hV hw 5) (ty := .byte) (v' := (.int (nar .byte (0 : Int32)))) dE_ rfl (fits_nar_byte _) rfl rfl (hb hby d3_23)) fun T7 h7 X7 e7 W7 => ?_
  replace F_coder_x := F_coder_x.same W7
  replace E_x := E_x.wr W7
  replace F_value_x := F_value_x.other W7 (Or.inr (sn1 hw))
  replace hk := Nat.le_trans hk (Keep.of_wr W7).1
  replace E_sa := E_sa.wr W7
  replace F_coder_sa := F_coder_sa.other W7 (Or.inl ne_sa_x)
  replace F_value_sa := F_value_sa.other W7 (Or.inl ne_sa_x)
  replace V_sb := V_sb.other W7 (Ne.symm ne_x_sb)
  replace K0 := K0.wr W7 (Or.inl (List.mem_of_getElem? (i := 0) rfl))
  replace N0 := Fr.snoc X7 N0 g_x
  show own_Go p e below _ (T7.setTop (mkF m 26 #[rv x, rv ca, iv (0 : Int32), iv (0 : Int32), .val .null, oU] []))
  exact own_retVI X7 Bd.notSynchronized hx Bd.returns (hb hby d3_26) hSi (by rw [show T7.heap = h7 from e7]; exact hk) (by
      try rw [show T7.heap = h7 from e7]
      exact ⟨sb, ks, rfl, N0, K0, E_x, F_value_x, F_coder_x, V_sb⟩) (by rw [show T7.heap = h7 from e7]; exact (Or.inr ⟨sa, sb, ks, hLit, E_sa, F_coder_sa, F_value_sa, V_sb⟩)) dE_ dE_

theorem d2_0 : dC1_ 0 (.aload_n 0, 1) := by decide +kernel
theorem d2_1 : dC1_ 1 (.aload_n 1, 1) := by decide +kernel
theorem d2_2 : dC1_ 2 (.iconst 0, 1) := by decide +kernel
theorem d2_3 : dC1_ 3 (.aload_n 1, 1) := by decide +kernel
theorem d2_4 : dC1_ 4 (.arraylength, 1) := by decide +kernel
theorem d2_5 : dC1_ 5 (.aconst_null, 1) := by decide +kernel
theorem d2_6 : dC1_ 6 (.invokespecial 27, 3) := by decide +kernel
theorem d2_9 : dC1_ 9 (.return_, 1) := by decide +kernel
theorem r2_0_3 : oDec jdk_42_method_3_code [(0, .aload_n 0, 1), (1, .aload_n 1, 1), (2, .iconst 0, 1), (3, .aload_n 1, 1)] := by decide +kernel
theorem r2_5_5 : oDec jdk_42_method_3_code [(5, .aconst_null, 1)] := by decide +kernel
theorem pn_2 : plainName "java/lang/String" = true := by first | (simp [plainName, overriddenIn]; done) | decide +kernel
theorem pd_2 : parseMethodDescriptor "([CIILjava/lang/Void;)V" = some ⟨[(.array .char), .int, .int, (.object "java/lang/Void")], none⟩ := by decide +kernel
theorem ef_2 (m : MethodId) (x0 x1 : Addr) : entryFrame m #[(.ref x0), (.ref x1)] 2 = mkF m 0 #[rv x0, rv x1] [] := by first | (simp [entryFrame, mkF, argsToLocals, Value.category]; done) | rfl
def Q2_z (Z : State) (x ca : Addr) (kc : ClassId) (h0 : Heap) (n0 : Nat) (v : Option Value) (h : Heap) (L : List Loc) : Prop := ∃ b : Addr, ∃ kb : ClassId, v = none ∧ Fr n0 L ∧ Keep h0 h [x] ∧ Exa Z h x c2_ ∧ Fld Z h x c2_ "value" "[B" (.ref b) ∧ Fld Z h x c2_ "coder" "B" oZ ∧ Arv Z h b kb .byte (0 : Int32) [] oZ
set_option maxRecDepth 65536 in
set_option maxHeartbeats 40000000 in
theorem rm2_z (l : Launch) (Z : State) (a0 : Array Value) (hw : oW_ a0 Z) (ws : List Jvm.Cond) (x ca : Addr) (kc : ClassId) (h0 : Heap) (n0 : Nat) (Z0 : n0 ≤ h0.size) (E_x : Exa Z h0 x c2_) (F_value_x : Fld Z h0 x c2_ "value" "[B" .null) (F_coder_x : Fld Z h0 x c2_ "coder" "B" oZ) (V_ca : Arv Z h0 ca kc .char (0 : Int32) [] oZ) (g_x : n0 ≤ x) (OZ : Old Z n0 h0) (hCH : Jvm.Lit.constHeld Z c2_ 7) (hcw : Jvm.Lit.compactW.before a0 Z = true) :
    MetFree l y4_ (head1 (Jvm.Cond.code y4_ jdk_42_method_3_code 2 none :: ws) (rM_ 2 2 4 29)) (fun a U => a = #[(.ref x), (.ref ca)] ∧ (Z.Warmed39 U.vm ∧ own_I Z U.vm h0) ∧ U.heap = h0) (fun _ _ _ _ _ => True) (fun _ U o U' => ∃ v L, o = .returned v ∧ (Q2_z Z x ca kc h0 n0 v U'.heap L ∧ own_I Z U'.vm U'.heap) ∧ ReturnedEndW U o U' L (rM_ 2 2 4 29).cells (rM_ 2 2 4 29).slots) := by
  refine MetFree.of_bodySF (plainFor_of_name pn_2) hisR ?_
  intro p e s m args below meth c s₁ Bd hml0 hP hK
  obtain ⟨rfl, ⟨hZ, hI⟩, hh⟩ := hP
  have hx := Bd.exec
  have hby := Bd.bytes
  have hml : c.maxLocals = 2 := hml0
  have hown : s.vm.findClass c2_ = some m.cls := findClass_of_methodNamed Bd.named
  have X0 : Stand p l e (rM_ 2 2 4 29) s m #[(.ref x), (.ref ca)] below meth c s₁ [] 0 0 := Stand.of_body Bd
  have e0 : s₁.heap = h0 := by rw [← hh, Bd.state]; rfl
  have N0 := Fr.nil n0
  have K0 : Keep h0 h0 [x] := Keep.refl h0 _
  replace X0 : Stand p l e (rM_ 2 2 4 29) (s.setVm s.vm) m #[(.ref x), (.ref ca)] below meth c s₁ [] 0 0 := X0
  replace hZ : Z.Warmed39 (s.setVm s.vm).vm := hZ
  replace hown : (s.setVm s.vm).vm.findClass c2_ = some m.cls := hown
  have hSi : s.Since s.vm 0 := (State.WarmedH.refl s).since 0
  have hk : 0 ≤ h0.size := Nat.zero_le _
  replace hI : own_I Z (s.setVm s.vm).vm h0 := hI
  have H : oH_ p _ m c Z _ _ _ := ⟨hx, hZ, hown, hml, hby⟩
  change own_Go p e below (own_PostI s Z _ _ _) _
  refine own_by (fun t k => castTop (ef_2 m x ca) k) ?_
  refine oG X0 H r2_0_3 4 #[rv x, rv ca] [(.ref ca), oZ, (.ref ca), (.ref x)] ?_
  refine oLen X0 H e0 V_ca d2_4 ?_
  refine oH X0 H r2_5_5 6 [.null, oZ, oZ, (.ref ca), (.ref x)] ?_
  refine own_ccI hSi (by rw [show s₁.heap = h0 from e0]; exact hk) hZ hown (own_callII X0 hx hZ hI (y := y3_) rfl hown (hV hw 11) (hV hw 12) (hV hw 6) (hV hw 14) dE_ (rm3_z l Z a0 hw [] x ca h0 n0 Z0 E_x F_value_x F_coder_x g_x OZ hCH hcw) e0 0 rfl hml x [(.ref ca), oZ, oZ, .null] [] rfl (lenOf pd_2 rfl) rfl (hb hby d2_6)) fun T2 L2 v2 X2 hSi hZ hown hQ2 hI => ?_
  obtain ⟨b2_0, k2_1, rfl, N2, K2, E_x', F_value_x', F_coder_x', V_b2_0'⟩ := hQ2
  replace N0 := Fr.app N0 N2
  replace K0 := K0.trans K2 (allS (Or.inl (List.mem_of_getElem? (i := 0) rfl)) all0)
  replace hk : T2.heap.size ≤ T2.heap.size := Nat.le_refl _
  replace E_x := E_x'
  have F_value_x := F_value_x'
  have F_coder_x := F_coder_x'
  have V_b2_0 := V_b2_0'
  show own_Go p e below _ (T2.setTop (mkF m 9 #[rv x, rv ca] []))
  exact own_retVI X2 Bd.notSynchronized hx Bd.returns (hb hby d2_9) hSi hk ⟨b2_0, k2_1, rfl, N0, K0, E_x, F_value_x, F_coder_x, V_b2_0⟩ hI dE_ dE_

theorem d7_0 : dC2_ 0 (.iconst 0, 1) := by decide +kernel
theorem d7_1 : dC2_ 1 (.istore 5, 2) := by decide +kernel
theorem d7_3 : dC2_ 3 (.iload 5, 2) := by decide +kernel
theorem d7_5 : dC2_ 5 (.iload 4, 2) := by decide +kernel
theorem d7_7 : dC2_ 7 (.if_icmp .ge 37, 3) := by decide +kernel
theorem d7_10 : dC2_ 10 (.aload_n 0, 1) := by decide +kernel
theorem d7_11 : dC2_ 11 (.iload_n 1, 1) := by decide +kernel
theorem d7_12 : dC2_ 12 (.caload, 1) := by decide +kernel
theorem d7_13 : dC2_ 13 (.istore 6, 2) := by decide +kernel
theorem d7_15 : dC2_ 15 (.iload 6, 2) := by decide +kernel
theorem d7_17 : dC2_ 17 (.sipush 255, 3) := by decide +kernel
theorem d7_20 : dC2_ 20 (.if_icmp .le 6, 3) := by decide +kernel
theorem d7_26 : dC2_ 26 (.aload_n 2, 1) := by decide +kernel
theorem d7_27 : dC2_ 27 (.iload_n 3, 1) := by decide +kernel
theorem d7_28 : dC2_ 28 (.iload 6, 2) := by decide +kernel
theorem d7_30 : dC2_ 30 (.i2b, 1) := by decide +kernel
theorem d7_31 : dC2_ 31 (.bastore, 1) := by decide +kernel
theorem d7_32 : dC2_ 32 (.iinc 1 1, 3) := by decide +kernel
theorem d7_35 : dC2_ 35 (.iinc 3 1, 3) := by decide +kernel
theorem d7_38 : dC2_ 38 (.iinc 5 1, 3) := by decide +kernel
theorem d7_41 : dC2_ 41 (.goto (-38), 3) := by decide +kernel
theorem d7_44 : dC2_ 44 (.iload 4, 2) := by decide +kernel
theorem d7_46 : dC2_ 46 (.ireturn, 1) := by decide +kernel
theorem r7_0_5 : oDec jdk_52_method_21_code [(0, .iconst 0, 1), (1, .istore 5, 2), (3, .iload 5, 2), (5, .iload 4, 2)] := by decide +kernel
theorem r7_10_11 : oDec jdk_52_method_21_code [(10, .aload_n 0, 1), (11, .iload_n 1, 1)] := by decide +kernel
theorem r7_13_15 : oDec jdk_52_method_21_code [(13, .istore 6, 2), (15, .iload 6, 2)] := by decide +kernel
theorem r7_26_28 : oDec jdk_52_method_21_code [(26, .aload_n 2, 1), (27, .iload_n 3, 1), (28, .iload 6, 2)] := by decide +kernel
theorem r7_41_5 : oDec jdk_52_method_21_code [(41, .goto (-38), 3), (3, .iload 5, 2), (5, .iload 4, 2)] := by decide +kernel
theorem r7_44_44 : oDec jdk_52_method_21_code [(44, .iload 4, 2)] := by decide +kernel
theorem pn_7 : plainName "java/lang/StringUTF16" = true := by first | (simp [plainName, overriddenIn]; done) | decide +kernel
theorem ef_7 (m : MethodId) (x0 : Addr) (x1 : Int32) (x2 : Addr) (x3 x4 : Int32) : entryFrame m #[(.ref x0), (.int x1), (.ref x2), (.int x3), (.int x4)] 7 = mkF m 0 (lA0_ x0 x1 x2 x3 x4) [] := by first | (simp [entryFrame, mkF, argsToLocals, Value.category]; done) | rfl
set_option maxRecDepth 65536 in
set_option maxHeartbeats 40000000 in
theorem rm7_1 (hw : oW_ a0 Z) (Z0 : n0 ≤ h0.size) (V_o0 : Arv Z h0 o0 k0 .char (1 : Int32) [(.int i1)] oZ) (g_o1 : n0 ≤ o1) (V_o1 : Arv Z h0 o1 k1 .byte (1 : Int32) [] oZ) (ne_o0_o1 : o0 ≠ o1) (hp0 : (0 : Int32) < i0) (hp1 : ¬ ((255 : Int32) < i1)) (hp2 : ¬ ((1 : Int32) < i0)) :
    oM l y0_ jdk_52_method_21_code 7 (some .int) ws (rM_ 0 0 0 0) #[(.ref o0), oZ, (.ref o1), oZ, (.int i0)] Z h0 (fun v h L => v = some (.int i0) ∧ Fr n0 L ∧ Keep h0 h [o1] ∧ Arv Z h o1 k1 .byte (1 : Int32) [(.int (nar .byte (i1.toInt8.toInt32)))] oZ) := by
  refine own_body c18_ (plainFor_of_name pn_7) (fun m => ef_7 m o0 (0 : Int32) o1 (0 : Int32) i0) fun p e s m below meth c s₁ X0 H hnm Bret Blk e0 => ?_
  obtain ⟨hx, hZ, _, _, hby⟩ := id H
  have N0 := Fr.nil n0
  have K0 : Keep h0 h0 [o1] := Keep.refl h0 _
  refine oCN X0 H r7_0_5 d7_7 (lA1_ o0 (0 : Int32) o1 (0 : Int32) i0 (0 : Int32)) [] rfl (tlt hp0).2.1 ?_
  refine oH X0 H r7_10_11 12 [oZ, (.ref o0)] ?_
  refine oB_ (tF_ s₁ (mkF m 13 (lA1_ o0 (0 : Int32) o1 (0 : Int32) i0 (0 : Int32)) [(.int i1)])) (fun t k => ?_) ?_
  · obtain ⟨cl1, Ar1, _, S1, _, H1, _⟩ := id V_o0
    have hin1 : ¬ ((0 : Int32) < 0 ∨ cl1.slots.size ≤ ((0 : Int32)).toNatClampNeg) := inb_of S1 ⟨by decide, by decide⟩
    have hat1 : cl1.slots[((0 : Int32)).toNatClampNeg]? = some (.int i1) := H1.at hin1 rfl
    refine X0.caload hx (j := (0 : Int32)) (v := (.int i1)) (by rw [show s₁.heap = h0 from e0]; exact Ar1.1) (State.isArrayOf_alike hZ.alike Ar1.2.1) Ar1.2.2 hin1 hat1 (g := (mkF m 12 (lA1_ o0 (0 : Int32) o1 (0 : Int32) i0 (0 : Int32)) [oZ, (.ref o0)])) rfl rfl (hb hby d7_12) _ ?_
    exact k
  refine oG X0 H r7_13_15 17 (lA2_ o0 (0 : Int32) o1 (0 : Int32) i0 (0 : Int32) i1) [(.int i1)] ?_
  refine oB_ (tF_ s₁ (mkF m 20 (lA2_ o0 (0 : Int32) o1 (0 : Int32) i0 (0 : Int32) i1) [(.int (255 : Int32)), (.int i1)])) (fun t k => ?_) ?_
  · refine XS.sipush X0.here hx rfl (hb hby d7_17) ?_
    exact k
  refine oCY X0 H oD0 d7_20 26 (lA2_ o0 (0 : Int32) o1 (0 : Int32) i0 (0 : Int32) i1) [] rfl (flt hp1).2.2.2 ?_
  refine oH X0 H r7_26_28 30 [(.int i1), oZ, (.ref o1)] ?_
  refine oB_ (tF_ s₁ (mkF m 31 (lA2_ o0 (0 : Int32) o1 (0 : Int32) i0 (0 : Int32) i1) [(.int (i1.toInt8.toInt32)), oZ, (.ref o1)])) (fun t k => ?_) ?_
  · refine XS.i2b X0.here hx rfl (hb hby d7_30) rfl ?_
    exact k
  replace V_o1 : Arv Z h0 o1 k1 .byte (1 : Int32) [oZ] oZ := V_o1.pad (pad_rep [] oZ 1)
  obtain ⟨cl2, Ar2, q2, S2, N2, H2, G2⟩ := V_o1
  have hin2 : ¬ ((0 : Int32) < 0 ∨ cl2.slots.size ≤ ((0 : Int32)).toNatClampNeg) := inb_of S2 ⟨by decide, by decide⟩
  refine own_c2 (stB X0 hx hZ e0 Ar2 (j := (0 : Int32)) hin2 rfl rfl (hb hby d7_31)) fun T2 h2 X2 e2 W2 => ?_
  replace V_o1 : Arv Z h2 o1 k1 .byte (1 : Int32) [(.int (nar .byte (i1.toInt8.toInt32)))] oZ := Arv.set Ar2 q2 S2 N2 H2 G2 (fits_nar_byte _) W2 0 rfl nB_
  replace K0 := K0.wr W2 (Or.inl (List.mem_of_getElem? (i := 0) rfl))
  replace N0 := Fr.snoc X2 N0 g_o1
  refine oB_ (tF_ T2 (mkF m 35 (lA2_ o0 (1 : Int32) o1 (0 : Int32) i0 (0 : Int32) i1) [])) (fun t k => ?_) ?_
  · refine XS.iinc X2.here hx rfl (hb hby d7_32) rfl (l' := (lA2_ o0 (1 : Int32) o1 (0 : Int32) i0 (0 : Int32) i1)) rfl ?_
    exact k
  refine oB_ (tF_ T2 (mkF m 38 (lA2_ o0 (1 : Int32) o1 (1 : Int32) i0 (0 : Int32) i1) [])) (fun t k => ?_) ?_
  · refine XS.iinc X2.here hx rfl (hb hby d7_35) rfl (l' := (lA2_ o0 (1 : Int32) o1 (1 : Int32) i0 (0 : Int32) i1)) rfl ?_
    exact k
  refine oB_ (tF_ T2 (mkF m 41 (lA2_ o0 (1 : Int32) o1 (1 : Int32) i0 (1 : Int32) i1) [])) (fun t k => ?_) ?_
  · refine XS.iinc X2.here hx rfl (hb hby d7_38) rfl (l' := (lA2_ o0 (1 : Int32) o1 (1 : Int32) i0 (1 : Int32) i1)) rfl ?_
    exact k
  refine oCY X2 H r7_41_5 d7_7 44 (lA2_ o0 (1 : Int32) o1 (1 : Int32) i0 (1 : Int32) i1) [] rfl (flt hp2).2.1 ?_
  refine oH X2 H r7_44_44 46 [(.int i0)] ?_
  exact own_retI X2 Blk hx Bret (hb hby d7_46) (by
      try rw [show T2.heap = h2 from e2]
      exact ⟨rfl, N0, K0, V_o1⟩) dE_ dE_

theorem d6_0 : dC3_ 0 (.iload_n 2, 1) := by decide +kernel
theorem d6_1 : dC3_ 1 (.newarray .byte, 2) := by decide +kernel
theorem d6_3 : dC3_ 3 (.astore_n 3, 1) := by decide +kernel
theorem d6_4 : dC3_ 4 (.aload_n 0, 1) := by decide +kernel
theorem d6_5 : dC3_ 5 (.iload_n 1, 1) := by decide +kernel
theorem d6_6 : dC3_ 6 (.aload_n 3, 1) := by decide +kernel
theorem d6_7 : dC3_ 7 (.iconst 0, 1) := by decide +kernel
theorem d6_8 : dC3_ 8 (.iload_n 2, 1) := by decide +kernel
theorem d6_9 : dC3_ 9 (.invokestatic 115, 3) := by decide +kernel
theorem d6_12 : dC3_ 12 (.istore 4, 2) := by decide +kernel
theorem d6_14 : dC3_ 14 (.iload 4, 2) := by decide +kernel
theorem d6_16 : dC3_ 16 (.iload_n 2, 1) := by decide +kernel
theorem d6_17 : dC3_ 17 (.if_icmp .eq 40, 3) := by decide +kernel
theorem d6_57 : dC3_ 57 (.aload_n 3, 1) := by decide +kernel
theorem d6_58 : dC3_ 58 (.areturn, 1) := by decide +kernel
theorem r6_0_0 : oDec jdk_52_method_16_code [(0, .iload_n 2, 1)] := by decide +kernel
theorem r6_3_8 : oDec jdk_52_method_16_code [(3, .astore_n 3, 1), (4, .aload_n 0, 1), (5, .iload_n 1, 1), (6, .aload_n 3, 1), (7, .iconst 0, 1), (8, .iload_n 2, 1)] := by decide +kernel
theorem r6_12_16 : oDec jdk_52_method_16_code [(12, .istore 4, 2), (14, .iload 4, 2), (16, .iload_n 2, 1)] := by decide +kernel
theorem r6_57_57 : oDec jdk_52_method_16_code [(57, .aload_n 3, 1)] := by decide +kernel
theorem pn_6 : plainName "java/lang/StringUTF16" = true := by first | (simp [plainName, overriddenIn]; done) | decide +kernel
theorem pd_6 : parseMethodDescriptor "([CI[BII)I" = some ⟨[(.array .char), .int, (.array .byte), .int, .int], some .int⟩ := by decide +kernel
theorem ef_6 (m : MethodId) (x0 : Addr) (x1 x2 : Int32) : entryFrame m #[(.ref x0), (.int x1), (.int x2)] 6 = mkF m 0 (lA3_ x0 x1 x2) [] := by first | (simp [entryFrame, mkF, argsToLocals, Value.category]; done) | rfl
set_option maxRecDepth 65536 in
set_option maxHeartbeats 40000000 in
theorem rm6_2 (hw : oW_ a0 Z) (Z0 : n0 ≤ h0.size) (V_o0 : Arv Z h0 o0 k0 .char (1 : Int32) [(.int i0)] oZ) (hp0 : ¬ ((255 : Int32) < i0)) :
    oM l y1_ jdk_52_method_16_code 6 (some (.array .byte)) ws (rM_ 1 1 1 18) #[(.ref o0), oZ, (.int (1 : Int32))] Z h0 (fun v h L => ∃ b1 : Addr, ∃ k1 : ClassId, v = some (.ref b1) ∧ Fr n0 L ∧ Keep h0 h [] ∧ Arv Z h b1 k1 .byte (1 : Int32) [(.int (nar .byte (i0.toInt8.toInt32)))] oZ ∧ h0.size ≤ b1) := by
  refine own_body c18_ (plainFor_of_name pn_6) (fun m => ef_6 m o0 (0 : Int32) (1 : Int32)) fun p e s m below meth c s₁ X0 H hnm Bret Blk e0 => ?_
  obtain ⟨hx, hZ, _, _, hby⟩ := id H
  have N0 := Fr.nil n0
  have K0 : Keep h0 h0 [] := Keep.refl h0 _
  refine oG X0 H r6_0_0 1 (lA3_ o0 (0 : Int32) (1 : Int32)) [(.int (1 : Int32))] ?_
  obtain ⟨T1, h1, k1, X1, e1, E1, A1, st1⟩ := newP X0 hx hZ (hV hw 19) e0 (g := (mkF m 1 (lA3_ o0 (0 : Int32) (1 : Int32)) [(.int (1 : Int32))])) rfl (hb hby d6_1) rfl dE_ (cap := 1) dE_ dE_ dE_ dE_
  obtain ⟨b1, g1⟩ : ∃ z, z = h0.size := ⟨_, rfl⟩
  rw [← g1] at A1 st1
  have g_b1 : n0 ≤ b1 := Nat.le_trans Z0 (Nat.le_of_eq g1.symm)
  have sz_b1 : h0.size ≤ b1 := Nat.le_trans K0.1 (Nat.le_of_eq g1.symm)
  replace K0 := K0.ext E1
  replace Z0 := Nat.le_trans Z0 E1.1
  have V_b1 : Arv Z h1 b1 k1 .byte (1 : Int32) [] oZ := Arv.new A1 dE_
  refine own_by st1 ?_
  refine oG X1 H r6_3_8 9 (lA4_ o0 (0 : Int32) (1 : Int32) b1) [(.int (1 : Int32)), oZ, (.ref b1), oZ, (.ref o0)] ?_
  refine ocS X1 H (wb0_ hw) (rm7_1 hw Z0 (V_o0.keep K0 nin0) g_b1 V_b1 (oNl V_o0.lt sz_b1) (by decide : (0 : Int32) < (1 : Int32)) hp0 (by decide : ¬ ((1 : Int32) < (1 : Int32)))) e1 0 [(.ref o0), oZ, (.ref b1), oZ, (.int (1 : Int32))] [] pd_6 d6_9 fun T3 _ _ X3 hQ3 => ?_
  obtain ⟨rfl, N3, K3, V_b1'⟩ := hQ3
  replace N0 := Fr.app N0 N3
  replace K0 := K0.trans K3 (allS (Or.inr sz_b1) all0)
  have V_b1 := V_b1'
  refine oCY X3 H r6_12_16 d6_17 57 (lA5_ o0 (0 : Int32) (1 : Int32) b1 (1 : Int32)) [] rfl (teq (by decide : (1 : Int32) = (1 : Int32))).1 ?_
  refine oH X3 H r6_57_57 58 [(.ref b1)] ?_
  exact own_retR X3 Blk hx Bret rfl rfl rfl (hb hby d6_58) ⟨b1, k1, rfl, N0, K0, V_b1, sz_b1⟩ dE_ dE_

theorem d8_0 : dC4_ 0 (.iload_n 1, 1) := by decide +kernel
theorem d8_1 : dC4_ 1 (.aload_n 0, 1) := by decide +kernel
theorem d8_2 : dC4_ 2 (.arraylength, 1) := by decide +kernel
theorem d8_3 : dC4_ 3 (.isub, 1) := by decide +kernel
theorem d8_4 : dC4_ 4 (.bipush 31, 2) := by decide +kernel
theorem d8_6 : dC4_ 6 (.iushr, 1) := by decide +kernel
theorem d8_7 : dC4_ 7 (.i2b, 1) := by decide +kernel
theorem d8_8 : dC4_ 8 (.ireturn, 1) := by decide +kernel
theorem r8_0_1 : oDec jdk_52_method_15_code [(0, .iload_n 1, 1), (1, .aload_n 0, 1)] := by decide +kernel
theorem r8_4_4 : oDec jdk_52_method_15_code [(4, .bipush 31, 2)] := by decide +kernel
theorem pn_8 : plainName "java/lang/StringUTF16" = true := by first | (simp [plainName, overriddenIn]; done) | decide +kernel
theorem ef_8 (m : MethodId) (x0 : Addr) (x1 : Int32) : entryFrame m #[(.ref x0), (.int x1)] 2 = mkF m 0 #[rv x0, iv x1] [] := by first | (simp [entryFrame, mkF, argsToLocals, Value.category]; done) | rfl
set_option maxRecDepth 65536 in
set_option maxHeartbeats 40000000 in
theorem rm8_3 (hw : oW_ a0 Z) (Z0 : n0 ≤ h0.size) (V_o0 : Arv Z h0 o0 k0 .byte (1 : Int32) [(.int i1)] oZ) :
    oM l y2_ jdk_52_method_15_code 2 (some .byte) ws (rM_ 0 0 0 0) #[(.ref o0), (.int i0)] Z h0 (fun v h L => v = some (.int (nar .byte ((((i0 - (1 : Int32)).toUInt32 >>> ((31 : Int32) &&& 31).toUInt32).toInt32).toInt8.toInt32))) ∧ Fr n0 L ∧ h = h0) := by
  refine own_body c18_ (plainFor_of_name pn_8) (fun m => ef_8 m o0 i0) fun p e s m below meth c s₁ X0 H hnm Bret Blk e0 => ?_
  obtain ⟨hx, _, _, _, hby⟩ := id H
  have N0 := Fr.nil n0
  refine oG X0 H r8_0_1 2 #[rv o0, iv i0] [(.ref o0), (.int i0)] ?_
  refine oLen X0 H e0 V_o0 d8_2 ?_
  refine oB_ (tF_ s₁ (mkF m 4 #[rv o0, iv i0] [(.int (i0 - (1 : Int32)))])) (fun t k => ?_) ?_
  · refine XS.isub X0.here hx rfl (hb hby d8_3) rfl ?_
    exact k
  refine oH X0 H r8_4_4 6 [(.int (31 : Int32)), (.int (i0 - (1 : Int32)))] ?_
  refine oB_ (tF_ s₁ (mkF m 7 #[rv o0, iv i0] [(.int (((i0 - (1 : Int32)).toUInt32 >>> ((31 : Int32) &&& 31).toUInt32).toInt32))])) (fun t k => ?_) ?_
  · refine XS.iushr X0.here hx rfl (hb hby d8_6) rfl ?_
    exact k
  refine oB_ (tF_ s₁ (mkF m 8 #[rv o0, iv i0] [(.int ((((i0 - (1 : Int32)).toUInt32 >>> ((31 : Int32) &&& 31).toUInt32).toInt32).toInt8.toInt32))])) (fun t k => ?_) ?_
  · refine XS.i2b X0.here hx rfl (hb hby d8_7) rfl ?_
    exact k
  exact own_retN X0 Blk hx (t := .byte) Bret (by simp) (hb hby d8_8) (by
      try rw [show s₁.heap = h0 from e0]
      exact ⟨rfl, N0, rfl⟩) dE_ dE_

theorem d3_27 : dC0_ 27 (.getstatic 38, 3) := by decide +kernel
theorem d3_30 : dC0_ 30 (.ifCond .eq 28, 3) := by decide +kernel
theorem d3_33 : dC0_ 33 (.aload_n 1, 1) := by decide +kernel
theorem d3_34 : dC0_ 34 (.iload_n 2, 1) := by decide +kernel
theorem d3_35 : dC0_ 35 (.iload_n 3, 1) := by decide +kernel
theorem d3_36 : dC0_ 36 (.invokestatic 177, 3) := by decide +kernel
theorem d3_39 : dC0_ 39 (.astore 5, 2) := by decide +kernel
theorem d3_41 : dC0_ 41 (.aload_n 0, 1) := by decide +kernel
theorem d3_42 : dC0_ 42 (.aload 5, 2) := by decide +kernel
theorem d3_44 : dC0_ 44 (.iload_n 3, 1) := by decide +kernel
theorem d3_45 : dC0_ 45 (.invokestatic 47, 3) := by decide +kernel
theorem d3_48 : dC0_ 48 (.putfield 15, 3) := by decide +kernel
theorem d3_51 : dC0_ 51 (.aload_n 0, 1) := by decide +kernel
theorem d3_52 : dC0_ 52 (.aload 5, 2) := by decide +kernel
theorem d3_54 : dC0_ 54 (.putfield 9, 3) := by decide +kernel
theorem d3_57 : dC0_ 57 (.return_, 1) := by decide +kernel
theorem r3_33_35 : oDec jdk_42_method_149_code [(33, .aload_n 1, 1), (34, .iload_n 2, 1), (35, .iload_n 3, 1)] := by decide +kernel
theorem r3_39_44 : oDec jdk_42_method_149_code [(39, .astore 5, 2), (41, .aload_n 0, 1), (42, .aload 5, 2), (44, .iload_n 3, 1)] := by decide +kernel
theorem r3_51_52 : oDec jdk_42_method_149_code [(51, .aload_n 0, 1), (52, .aload 5, 2)] := by decide +kernel
theorem pd_5 : parseMethodDescriptor "([CII)[B" = some ⟨[(.array .char), .int, .int], some (.array .byte)⟩ := by decide +kernel
theorem pd_7 : parseMethodDescriptor "([BI)B" = some ⟨[(.array .byte), .int], some .byte⟩ := by decide +kernel
set_option maxRecDepth 65536 in
set_option maxHeartbeats 40000000 in
theorem rm3_4 (hw : oW_ a0 Z) (Z0 : n0 ≤ h0.size) (g_o0 : n0 ≤ o0) (E_o0 : Exa Z h0 o0 c2_) (F_value_o0 : Fld Z h0 o0 c2_ "value" "[B" .null) (F_coder_o0 : Fld Z h0 o0 c2_ "coder" "B" (.int i0)) (V_o1 : Arv Z h0 o1 k0 .char (1 : Int32) [(.int i1)] oZ) (S_COMPACT_STRINGS : Sta Z Z.heap c2_ c13_ "Z" (.int i2)) (OZ : Old Z n0 h0) (hp0 : ¬ (i2 = (0 : Int32))) (hp1 : ¬ ((255 : Int32) < i1)) :
    oM l y3_ jdk_42_method_149_code 6 none ws (rM_ 2 1 1 35) #[(.ref o0), (.ref o1), oZ, (.int (1 : Int32)), .null] Z h0 (fun v h L => ∃ b5_0 : Addr, ∃ k5_1 : ClassId, v = none ∧ Fr n0 L ∧ Keep h0 h [o0] ∧ Exa Z h o0 c2_ ∧ Fld Z h o0 c2_ "value" "[B" (.ref b5_0) ∧ Fld Z h o0 c2_ "coder" "B" (.int (nar .byte (0 : Int32))) ∧ Arv Z h b5_0 k5_1 .byte (1 : Int32) [(.int (nar .byte (i1.toInt8.toInt32)))] oZ ∧ h0.size ≤ b5_0) := by
  refine own_body c2_ (plainFor_of_name pn_3) (fun m => ef_3n m o0 o1 (0 : Int32) (1 : Int32)) fun p e s m below meth c s₁ X0 H hnm Bret Blk e0 => ?_
  obtain ⟨hx, hZ, hown, hml, hby⟩ := id H
  have N0 := Fr.nil n0
  have K0 : Keep h0 h0 [o0] := Keep.refl h0 _
  refine oG X0 H r3_0_0 1 #[rv o0, rv o1, iv (0 : Int32), iv (1 : Int32), .val .null, oU] [(.ref o0)] ?_
  refine own_c1 (initO X0 hx hZ hown (hV hw 15) (hV hw 16) (hV hw 17) e0 rfl (by rw [hml]; rfl) rfl (hb hby d3_1) dE_ (W := 0) (by show 2 * 0 + _ ≤ _; exact Nat.le_of_eq rfl) dE_) fun T2 X2 e2 => ?_
  refine oIY X2 H r3_4_4 d3_5 27 #[rv o0, rv o1, iv (0 : Int32), iv (1 : Int32), .val .null, oU] [] rfl ((if0 _ _).trans (feq (by decide : ¬ ((1 : Int32) = (0 : Int32)))).2) ?_
  refine oGS X2 H (host := "") (Or.inl (hV hw 29)) Via.refl e2 (S_COMPACT_STRINGS.ext OZ.2) d3_27 fun T3 X3 e3 => ?_
  refine oIN X3 H oD0 d3_30 #[rv o0, rv o1, iv (0 : Int32), iv (1 : Int32), .val .null, oU] [] rfl ((if0 _ _).trans (feq hp0).1) ?_
  refine oH X3 H r3_33_35 36 [(.int (1 : Int32)), oZ, (.ref o1)] ?_
  refine ocS X3 H (wb1_ hw) (rm6_2 hw Z0 V_o1 hp1) e3 0 [(.ref o1), oZ, (.int (1 : Int32))] [] pd_5 d3_36 fun T5 _ _ X5 hQ5 => ?_
  obtain ⟨b5_0, k5_1, rfl, N5, K5, V_b5_0', sz_b5_0'⟩ := hQ5
  replace N0 := Fr.app N0 N5
  have sz_b5_0 := Nat.le_trans K0.1 sz_b5_0'
  have ne_o0_b5_0 := oNl E_o0.lt sz_b5_0'
  replace E_o0 := E_o0.keep K5
  replace F_value_o0 := F_value_o0.keep K5 nin0
  replace F_coder_o0 := F_coder_o0.keep K5 nin0
  replace K0 := K0.trans K5 all0
  replace Z0 := Nat.le_trans Z0 K5.1
  have V_b5_0 := V_b5_0'
  refine oG X5 H r3_39_44 45 #[rv o0, rv o1, iv (0 : Int32), iv (1 : Int32), .val .null, rv b5_0] [(.int (1 : Int32)), (.ref b5_0), (.ref o0)] ?_
  refine ocS X5 H (wb2_ hw) (rm8_3 hw Z0 V_b5_0) (rfl : T5.heap = _) 1 [(.ref b5_0), (.int (1 : Int32))] [(.ref o0)] pd_7 d3_45 fun T7 _ _ X7 hQ7 => ?_
  obtain ⟨rfl, N7, e7⟩ := hQ7
  replace N0 := Fr.app N0 N7
  refine own_c2 (putFN X7 hx hZ hown (hV hw 25) Via.refl e7 F_coder_o0 E_o0 (Or.inr ⟨(hV hw 21), rfl, hnm⟩) (hV hw 5) (ty := .byte) (v' := (.int (nar .byte (0 : Int32)))) dE_ rfl (fits_nar_byte _) rfl rfl (hb hby d3_48)) fun T8 h8 X8 e8 W8 => ?_
  replace F_coder_o0 := F_coder_o0.same W8
  replace E_o0 := E_o0.wr W8
  replace F_value_o0 := F_value_o0.other W8 (Or.inr (sn1 hw))
  replace V_b5_0 := V_b5_0.other W8 (Ne.symm ne_o0_b5_0)
  replace K0 := K0.wr W8 (Or.inl (List.mem_of_getElem? (i := 0) rfl))
  replace N0 := Fr.snoc X8 N0 g_o0
  refine oG X8 H r3_51_52 54 #[rv o0, rv o1, iv (0 : Int32), iv (1 : Int32), .val .null, rv b5_0] [(.ref b5_0), (.ref o0)] ?_
  refine own_c2 (putF X8 hx hZ hown (host := "") (Or.inl (hV hw 24)) Via.refl e8 F_value_o0 E_o0 (Or.inr ⟨(hV hw 20), rfl, hnm⟩) (hV hw 5) (ty := (.array .byte)) dE_ rfl rfl rfl rfl (hb hby d3_54)) fun T9 h9 X9 e9 W9 => ?_
  replace F_value_o0 := F_value_o0.same W9
  replace E_o0 := E_o0.wr W9
  replace F_coder_o0 := F_coder_o0.other W9 (Or.inr (sn0 hw))
  replace V_b5_0 := V_b5_0.other W9 (Ne.symm ne_o0_b5_0)
  replace K0 := K0.wr W9 (Or.inl (List.mem_of_getElem? (i := 0) rfl))
  replace N0 := Fr.snoc X9 N0 g_o0
  show own_Go p e below _ (T9.setTop (mkF m 57 #[rv o0, rv o1, iv (0 : Int32), iv (1 : Int32), .val .null, rv b5_0] []))
  exact own_retV X9 Blk hx Bret (hb hby d3_57) (by
      try rw [show T9.heap = h9 from e9]
      exact ⟨b5_0, k5_1, rfl, N0, K0, E_o0, F_value_o0, F_coder_o0, V_b5_0, sz_b5_0⟩) dE_ dE_

set_option maxRecDepth 65536 in
set_option maxHeartbeats 40000000 in
theorem rm2_5 (hw : oW_ a0 Z) (Z0 : n0 ≤ h0.size) (g_o0 : n0 ≤ o0) (E_o0 : Exa Z h0 o0 c2_) (F_value_o0 : Fld Z h0 o0 c2_ "value" "[B" .null) (F_coder_o0 : Fld Z h0 o0 c2_ "coder" "B" (.int i0)) (V_o1 : Arv Z h0 o1 k0 .char (1 : Int32) [(.int i1)] oZ) (S_COMPACT_STRINGS : Sta Z Z.heap c2_ c13_ "Z" (.int i2)) (OZ : Old Z n0 h0) (hp0 : ¬ (i2 = (0 : Int32))) (hp1 : ¬ ((255 : Int32) < i1)) :
    oM l y4_ jdk_42_method_3_code 2 none ws (rM_ 3 1 1 52) #[(.ref o0), (.ref o1)] Z h0 (fun v h L => ∃ b2_0 : Addr, ∃ k2_1 : ClassId, v = none ∧ Fr n0 L ∧ Keep h0 h [o0] ∧ Exa Z h o0 c2_ ∧ Fld Z h o0 c2_ "value" "[B" (.ref b2_0) ∧ Fld Z h o0 c2_ "coder" "B" oZ ∧ Arv Z h b2_0 k2_1 .byte (1 : Int32) [(.int (nar .byte (i1.toInt8.toInt32)))] oZ ∧ h0.size ≤ b2_0) := by
  refine own_body c2_ (plainFor_of_name pn_2) (fun m => ef_2 m o0 o1) fun p e s m below meth c s₁ X0 H hnm Bret Blk e0 => ?_
  obtain ⟨hx, _, _, _, hby⟩ := id H
  have N0 := Fr.nil n0
  have K0 : Keep h0 h0 [o0] := Keep.refl h0 _
  refine oG X0 H r2_0_3 4 #[rv o0, rv o1] [(.ref o1), oZ, (.ref o1), (.ref o0)] ?_
  refine oLen X0 H e0 V_o1 d2_4 ?_
  refine oH X0 H r2_5_5 6 [.null, (.int (1 : Int32)), oZ, (.ref o1), (.ref o0)] ?_
  refine ocI X0 H (wb3_ hw) (rm3_4 hw Z0 g_o0 E_o0 F_value_o0 F_coder_o0 V_o1 S_COMPACT_STRINGS OZ hp0 hp1) e0 0 o0 [(.ref o1), oZ, (.int (1 : Int32)), .null] [] pd_2 d2_6 fun T2 _ _ X2 hQ2 => ?_
  obtain ⟨b2_0, k2_1, rfl, N2, K2, E_o0', F_value_o0', F_coder_o0', V_b2_0', sz_b2_0'⟩ := hQ2
  replace N0 := Fr.app N0 N2
  have sz_b2_0 := Nat.le_trans K0.1 sz_b2_0'
  replace K0 := K0.trans K2 (allS (Or.inl (List.mem_of_getElem? (i := 0) rfl)) all0)
  replace E_o0 := E_o0'
  have F_value_o0 := F_value_o0'
  have F_coder_o0 : Fld Z T2.heap o0 c2_ "coder" "B" oZ := F_coder_o0'
  have V_b2_0 := V_b2_0'
  exact own_retV X2 Blk hx Bret (hb hby d2_9) ⟨b2_0, k2_1, rfl, N0, K0, E_o0, F_value_o0, F_coder_o0, V_b2_0, sz_b2_0⟩ dE_ dE_

set_option maxRecDepth 65536 in
set_option maxHeartbeats 40000000 in
theorem rm7_6 (hw : oW_ a0 Z) (Z0 : n0 ≤ h0.size) (V_o0 : Arv Z h0 o0 k0 .char (2 : Int32) [(.int i1), (.int i2)] oZ) (g_o1 : n0 ≤ o1) (V_o1 : Arv Z h0 o1 k1 .byte (2 : Int32) [] oZ) (ne_o0_o1 : o0 ≠ o1) (hp0 : (0 : Int32) < i0) (hp1 : ¬ ((255 : Int32) < i1)) (hp2 : (1 : Int32) < i0) (hp3 : ¬ ((255 : Int32) < i2)) (hp4 : ¬ ((2 : Int32) < i0)) :
    oM l y0_ jdk_52_method_21_code 7 (some .int) ws (rM_ 0 0 0 0) #[(.ref o0), oZ, (.ref o1), oZ, (.int i0)] Z h0 (fun v h L => v = some (.int i0) ∧ Fr n0 L ∧ Keep h0 h [o1] ∧ Arv Z h o1 k1 .byte (2 : Int32) [(.int (nar .byte (i1.toInt8.toInt32))), (.int (nar .byte (i2.toInt8.toInt32)))] oZ) := by
  refine own_body c18_ (plainFor_of_name pn_7) (fun m => ef_7 m o0 (0 : Int32) o1 (0 : Int32) i0) fun p e s m below meth c s₁ X0 H hnm Bret Blk e0 => ?_
  obtain ⟨hx, hZ, _, _, hby⟩ := id H
  have N0 := Fr.nil n0
  have K0 : Keep h0 h0 [o1] := Keep.refl h0 _
  refine oCN X0 H r7_0_5 d7_7 (lA1_ o0 (0 : Int32) o1 (0 : Int32) i0 (0 : Int32)) [] rfl (tlt hp0).2.1 ?_
  refine oH X0 H r7_10_11 12 [oZ, (.ref o0)] ?_
  refine oB_ (tF_ s₁ (mkF m 13 (lA1_ o0 (0 : Int32) o1 (0 : Int32) i0 (0 : Int32)) [(.int i1)])) (fun t k => ?_) ?_
  · obtain ⟨cl1, Ar1, _, S1, _, H1, _⟩ := id V_o0
    have hin1 : ¬ ((0 : Int32) < 0 ∨ cl1.slots.size ≤ ((0 : Int32)).toNatClampNeg) := inb_of S1 ⟨by decide, by decide⟩
    have hat1 : cl1.slots[((0 : Int32)).toNatClampNeg]? = some (.int i1) := H1.at hin1 rfl
    refine X0.caload hx (j := (0 : Int32)) (v := (.int i1)) (by rw [show s₁.heap = h0 from e0]; exact Ar1.1) (State.isArrayOf_alike hZ.alike Ar1.2.1) Ar1.2.2 hin1 hat1 (g := (mkF m 12 (lA1_ o0 (0 : Int32) o1 (0 : Int32) i0 (0 : Int32)) [oZ, (.ref o0)])) rfl rfl (hb hby d7_12) _ ?_
    exact k
  refine oG X0 H r7_13_15 17 (lA2_ o0 (0 : Int32) o1 (0 : Int32) i0 (0 : Int32) i1) [(.int i1)] ?_
  refine oB_ (tF_ s₁ (mkF m 20 (lA2_ o0 (0 : Int32) o1 (0 : Int32) i0 (0 : Int32) i1) [(.int (255 : Int32)), (.int i1)])) (fun t k => ?_) ?_
  · refine XS.sipush X0.here hx rfl (hb hby d7_17) ?_
    exact k
  refine oCY X0 H oD0 d7_20 26 (lA2_ o0 (0 : Int32) o1 (0 : Int32) i0 (0 : Int32) i1) [] rfl (flt hp1).2.2.2 ?_
  refine oH X0 H r7_26_28 30 [(.int i1), oZ, (.ref o1)] ?_
  refine oB_ (tF_ s₁ (mkF m 31 (lA2_ o0 (0 : Int32) o1 (0 : Int32) i0 (0 : Int32) i1) [(.int (i1.toInt8.toInt32)), oZ, (.ref o1)])) (fun t k => ?_) ?_
  · refine XS.i2b X0.here hx rfl (hb hby d7_30) rfl ?_
    exact k
  replace V_o1 : Arv Z h0 o1 k1 .byte (2 : Int32) [oZ] oZ := V_o1.pad (pad_rep [] oZ 1)
  obtain ⟨cl2, Ar2, q2, S2, N2, H2, G2⟩ := V_o1
  have hin2 : ¬ ((0 : Int32) < 0 ∨ cl2.slots.size ≤ ((0 : Int32)).toNatClampNeg) := inb_of S2 ⟨by decide, by decide⟩
  refine own_c2 (stB X0 hx hZ e0 Ar2 (j := (0 : Int32)) hin2 rfl rfl (hb hby d7_31)) fun T2 h2 X2 e2 W2 => ?_
  replace V_o1 : Arv Z h2 o1 k1 .byte (2 : Int32) [(.int (nar .byte (i1.toInt8.toInt32)))] oZ := Arv.set Ar2 q2 S2 N2 H2 G2 (fits_nar_byte _) W2 0 rfl nB_
  replace K0 := K0.wr W2 (Or.inl (List.mem_of_getElem? (i := 0) rfl))
  replace N0 := Fr.snoc X2 N0 g_o1
  refine oB_ (tF_ T2 (mkF m 35 (lA2_ o0 (1 : Int32) o1 (0 : Int32) i0 (0 : Int32) i1) [])) (fun t k => ?_) ?_
  · refine XS.iinc X2.here hx rfl (hb hby d7_32) rfl (l' := (lA2_ o0 (1 : Int32) o1 (0 : Int32) i0 (0 : Int32) i1)) rfl ?_
    exact k
  refine oB_ (tF_ T2 (mkF m 38 (lA2_ o0 (1 : Int32) o1 (1 : Int32) i0 (0 : Int32) i1) [])) (fun t k => ?_) ?_
  · refine XS.iinc X2.here hx rfl (hb hby d7_35) rfl (l' := (lA2_ o0 (1 : Int32) o1 (1 : Int32) i0 (0 : Int32) i1)) rfl ?_
    exact k
  refine oB_ (tF_ T2 (mkF m 41 (lA2_ o0 (1 : Int32) o1 (1 : Int32) i0 (1 : Int32) i1) [])) (fun t k => ?_) ?_
  · refine XS.iinc X2.here hx rfl (hb hby d7_38) rfl (l' := (lA2_ o0 (1 : Int32) o1 (1 : Int32) i0 (1 : Int32) i1)) rfl ?_
    exact k
  refine oCN X2 H r7_41_5 d7_7 (lA2_ o0 (1 : Int32) o1 (1 : Int32) i0 (1 : Int32) i1) [] rfl (tlt hp2).2.1 ?_
  refine oH X2 H r7_10_11 12 [(.int (1 : Int32)), (.ref o0)] ?_
  refine oB_ (tF_ T2 (mkF m 13 (lA2_ o0 (1 : Int32) o1 (1 : Int32) i0 (1 : Int32) i1) [(.int i2)])) (fun t k => ?_) ?_
  · obtain ⟨cl3, Ar3, _, S3, _, H3, _⟩ := id (V_o0.keep K0 (ninS ne_o0_o1 nin0))
    have hin3 : ¬ ((1 : Int32) < 0 ∨ cl3.slots.size ≤ ((1 : Int32)).toNatClampNeg) := inb_of S3 ⟨by decide, by decide⟩
    have hat3 : cl3.slots[((1 : Int32)).toNatClampNeg]? = some (.int i2) := H3.at hin3 rfl
    refine X2.caload hx (j := (1 : Int32)) (v := (.int i2)) (by rw [show T2.heap = h2 from e2]; exact Ar3.1) (State.isArrayOf_alike hZ.alike Ar3.2.1) Ar3.2.2 hin3 hat3 (g := (mkF m 12 (lA2_ o0 (1 : Int32) o1 (1 : Int32) i0 (1 : Int32) i1) [(.int (1 : Int32)), (.ref o0)])) rfl rfl (hb hby d7_12) _ ?_
    exact k
  refine oG X2 H r7_13_15 17 (lA2_ o0 (1 : Int32) o1 (1 : Int32) i0 (1 : Int32) i2) [(.int i2)] ?_
  refine oB_ (tF_ T2 (mkF m 20 (lA2_ o0 (1 : Int32) o1 (1 : Int32) i0 (1 : Int32) i2) [(.int (255 : Int32)), (.int i2)])) (fun t k => ?_) ?_
  · refine XS.sipush X2.here hx rfl (hb hby d7_17) ?_
    exact k
  refine oCY X2 H oD0 d7_20 26 (lA2_ o0 (1 : Int32) o1 (1 : Int32) i0 (1 : Int32) i2) [] rfl (flt hp3).2.2.2 ?_
  refine oH X2 H r7_26_28 30 [(.int i2), (.int (1 : Int32)), (.ref o1)] ?_
  refine oB_ (tF_ T2 (mkF m 31 (lA2_ o0 (1 : Int32) o1 (1 : Int32) i0 (1 : Int32) i2) [(.int (i2.toInt8.toInt32)), (.int (1 : Int32)), (.ref o1)])) (fun t k => ?_) ?_
  · refine XS.i2b X2.here hx rfl (hb hby d7_30) rfl ?_
    exact k
  replace V_o1 : Arv Z h2 o1 k1 .byte (2 : Int32) [(.int (nar .byte (i1.toInt8.toInt32))), oZ] oZ := V_o1.pad (pad_rep [(.int (nar .byte (i1.toInt8.toInt32)))] oZ 1)
  obtain ⟨cl4, Ar4, q4, S4, N4, H4, G4⟩ := V_o1
  have hin4 : ¬ ((1 : Int32) < 0 ∨ cl4.slots.size ≤ ((1 : Int32)).toNatClampNeg) := inb_of S4 ⟨by decide, by decide⟩
  refine own_c2 (stB X2 hx hZ e2 Ar4 (j := (1 : Int32)) hin4 rfl rfl (hb hby d7_31)) fun T4 h4 X4 e4 W4 => ?_
  replace V_o1 : Arv Z h4 o1 k1 .byte (2 : Int32) [(.int (nar .byte (i1.toInt8.toInt32))), (.int (nar .byte (i2.toInt8.toInt32)))] oZ := Arv.set Ar4 q4 S4 N4 H4 G4 (fits_nar_byte _) W4 1 rfl nB_
  replace K0 := K0.wr W4 (Or.inl (List.mem_of_getElem? (i := 0) rfl))
  replace N0 := Fr.snoc X4 N0 g_o1
  refine oB_ (tF_ T4 (mkF m 35 (lA2_ o0 (2 : Int32) o1 (1 : Int32) i0 (1 : Int32) i2) [])) (fun t k => ?_) ?_
  · refine XS.iinc X4.here hx rfl (hb hby d7_32) rfl (l' := (lA2_ o0 (2 : Int32) o1 (1 : Int32) i0 (1 : Int32) i2)) rfl ?_
    exact k
  refine oB_ (tF_ T4 (mkF m 38 (lA2_ o0 (2 : Int32) o1 (2 : Int32) i0 (1 : Int32) i2) [])) (fun t k => ?_) ?_
  · refine XS.iinc X4.here hx rfl (hb hby d7_35) rfl (l' := (lA2_ o0 (2 : Int32) o1 (2 : Int32) i0 (1 : Int32) i2)) rfl ?_
    exact k
  refine oB_ (tF_ T4 (mkF m 41 (lA2_ o0 (2 : Int32) o1 (2 : Int32) i0 (2 : Int32) i2) [])) (fun t k => ?_) ?_
  · refine XS.iinc X4.here hx rfl (hb hby d7_38) rfl (l' := (lA2_ o0 (2 : Int32) o1 (2 : Int32) i0 (2 : Int32) i2)) rfl ?_
    exact k
  refine oCY X4 H r7_41_5 d7_7 44 (lA2_ o0 (2 : Int32) o1 (2 : Int32) i0 (2 : Int32) i2) [] rfl (flt hp4).2.1 ?_
  refine oH X4 H r7_44_44 46 [(.int i0)] ?_
  exact own_retI X4 Blk hx Bret (hb hby d7_46) (by
      try rw [show T4.heap = h4 from e4]
      exact ⟨rfl, N0, K0, V_o1⟩) dE_ dE_

set_option maxRecDepth 65536 in
set_option maxHeartbeats 40000000 in
theorem rm6_7 (hw : oW_ a0 Z) (Z0 : n0 ≤ h0.size) (V_o0 : Arv Z h0 o0 k0 .char (2 : Int32) [(.int i0), (.int i1)] oZ) (hp0 : ¬ ((255 : Int32) < i0)) (hp1 : ¬ ((255 : Int32) < i1)) :
    oM l y1_ jdk_52_method_16_code 6 (some (.array .byte)) ws (rM_ 1 1 2 18) #[(.ref o0), oZ, (.int (2 : Int32))] Z h0 (fun v h L => ∃ b1 : Addr, ∃ k1 : ClassId, v = some (.ref b1) ∧ Fr n0 L ∧ Keep h0 h [] ∧ Arv Z h b1 k1 .byte (2 : Int32) [(.int (nar .byte (i0.toInt8.toInt32))), (.int (nar .byte (i1.toInt8.toInt32)))] oZ ∧ h0.size ≤ b1) := by
  refine own_body c18_ (plainFor_of_name pn_6) (fun m => ef_6 m o0 (0 : Int32) (2 : Int32)) fun p e s m below meth c s₁ X0 H hnm Bret Blk e0 => ?_
  obtain ⟨hx, hZ, _, _, hby⟩ := id H
  have N0 := Fr.nil n0
  have K0 : Keep h0 h0 [] := Keep.refl h0 _
  refine oG X0 H r6_0_0 1 (lA3_ o0 (0 : Int32) (2 : Int32)) [(.int (2 : Int32))] ?_
  obtain ⟨T1, h1, k1, X1, e1, E1, A1, st1⟩ := newP X0 hx hZ (hV hw 19) e0 (g := (mkF m 1 (lA3_ o0 (0 : Int32) (2 : Int32)) [(.int (2 : Int32))])) rfl (hb hby d6_1) rfl dE_ (cap := 2) dE_ dE_ dE_ dE_
  obtain ⟨b1, g1⟩ : ∃ z, z = h0.size := ⟨_, rfl⟩
  rw [← g1] at A1 st1
  have g_b1 : n0 ≤ b1 := Nat.le_trans Z0 (Nat.le_of_eq g1.symm)
  have sz_b1 : h0.size ≤ b1 := Nat.le_trans K0.1 (Nat.le_of_eq g1.symm)
  replace K0 := K0.ext E1
  replace Z0 := Nat.le_trans Z0 E1.1
  have V_b1 : Arv Z h1 b1 k1 .byte (2 : Int32) [] oZ := Arv.new A1 dE_
  refine own_by st1 ?_
  refine oG X1 H r6_3_8 9 (lA4_ o0 (0 : Int32) (2 : Int32) b1) [(.int (2 : Int32)), oZ, (.ref b1), oZ, (.ref o0)] ?_
  refine ocS X1 H (wb0_ hw) (rm7_6 hw Z0 (V_o0.keep K0 nin0) g_b1 V_b1 (oNl V_o0.lt sz_b1) (by decide : (0 : Int32) < (2 : Int32)) hp0 (by decide : (1 : Int32) < (2 : Int32)) hp1 (by decide : ¬ ((2 : Int32) < (2 : Int32)))) e1 0 [(.ref o0), oZ, (.ref b1), oZ, (.int (2 : Int32))] [] pd_6 d6_9 fun T3 _ _ X3 hQ3 => ?_
  obtain ⟨rfl, N3, K3, V_b1'⟩ := hQ3
  replace N0 := Fr.app N0 N3
  replace K0 := K0.trans K3 (allS (Or.inr sz_b1) all0)
  have V_b1 := V_b1'
  refine oCY X3 H r6_12_16 d6_17 57 (lA5_ o0 (0 : Int32) (2 : Int32) b1 (2 : Int32)) [] rfl (teq (by decide : (2 : Int32) = (2 : Int32))).1 ?_
  refine oH X3 H r6_57_57 58 [(.ref b1)] ?_
  exact own_retR X3 Blk hx Bret rfl rfl rfl (hb hby d6_58) ⟨b1, k1, rfl, N0, K0, V_b1, sz_b1⟩ dE_ dE_

set_option maxRecDepth 65536 in
set_option maxHeartbeats 40000000 in
theorem rm8_8 (hw : oW_ a0 Z) (Z0 : n0 ≤ h0.size) (V_o0 : Arv Z h0 o0 k0 .byte (2 : Int32) [(.int i1), (.int i2)] oZ) :
    oM l y2_ jdk_52_method_15_code 2 (some .byte) ws (rM_ 0 0 0 0) #[(.ref o0), (.int i0)] Z h0 (fun v h L => v = some (.int (nar .byte ((((i0 - (2 : Int32)).toUInt32 >>> ((31 : Int32) &&& 31).toUInt32).toInt32).toInt8.toInt32))) ∧ Fr n0 L ∧ h = h0) := by
  refine own_body c18_ (plainFor_of_name pn_8) (fun m => ef_8 m o0 i0) fun p e s m below meth c s₁ X0 H hnm Bret Blk e0 => ?_
  obtain ⟨hx, _, _, _, hby⟩ := id H
  have N0 := Fr.nil n0
  refine oG X0 H r8_0_1 2 #[rv o0, iv i0] [(.ref o0), (.int i0)] ?_
  refine oLen X0 H e0 V_o0 d8_2 ?_
  refine oB_ (tF_ s₁ (mkF m 4 #[rv o0, iv i0] [(.int (i0 - (2 : Int32)))])) (fun t k => ?_) ?_
  · refine XS.isub X0.here hx rfl (hb hby d8_3) rfl ?_
    exact k
  refine oH X0 H r8_4_4 6 [(.int (31 : Int32)), (.int (i0 - (2 : Int32)))] ?_
  refine oB_ (tF_ s₁ (mkF m 7 #[rv o0, iv i0] [(.int (((i0 - (2 : Int32)).toUInt32 >>> ((31 : Int32) &&& 31).toUInt32).toInt32))])) (fun t k => ?_) ?_
  · refine XS.iushr X0.here hx rfl (hb hby d8_6) rfl ?_
    exact k
  refine oB_ (tF_ s₁ (mkF m 8 #[rv o0, iv i0] [(.int ((((i0 - (2 : Int32)).toUInt32 >>> ((31 : Int32) &&& 31).toUInt32).toInt32).toInt8.toInt32))])) (fun t k => ?_) ?_
  · refine XS.i2b X0.here hx rfl (hb hby d8_7) rfl ?_
    exact k
  exact own_retN X0 Blk hx (t := .byte) Bret (by simp) (hb hby d8_8) (by
      try rw [show s₁.heap = h0 from e0]
      exact ⟨rfl, N0, rfl⟩) dE_ dE_

set_option maxRecDepth 65536 in
set_option maxHeartbeats 40000000 in
theorem rm3_9 (hw : oW_ a0 Z) (Z0 : n0 ≤ h0.size) (g_o0 : n0 ≤ o0) (E_o0 : Exa Z h0 o0 c2_) (F_value_o0 : Fld Z h0 o0 c2_ "value" "[B" .null) (F_coder_o0 : Fld Z h0 o0 c2_ "coder" "B" (.int i0)) (V_o1 : Arv Z h0 o1 k0 .char (2 : Int32) [(.int i1), (.int i2)] oZ) (S_COMPACT_STRINGS : Sta Z Z.heap c2_ c13_ "Z" (.int i3)) (OZ : Old Z n0 h0) (hp0 : ¬ (i3 = (0 : Int32))) (hp1 : ¬ ((255 : Int32) < i1)) (hp2 : ¬ ((255 : Int32) < i2)) :
    oM l y3_ jdk_42_method_149_code 6 none ws (rM_ 2 1 2 35) #[(.ref o0), (.ref o1), oZ, (.int (2 : Int32)), .null] Z h0 (fun v h L => ∃ b5_0 : Addr, ∃ k5_1 : ClassId, v = none ∧ Fr n0 L ∧ Keep h0 h [o0] ∧ Exa Z h o0 c2_ ∧ Fld Z h o0 c2_ "value" "[B" (.ref b5_0) ∧ Fld Z h o0 c2_ "coder" "B" (.int (nar .byte (0 : Int32))) ∧ Arv Z h b5_0 k5_1 .byte (2 : Int32) [(.int (nar .byte (i1.toInt8.toInt32))), (.int (nar .byte (i2.toInt8.toInt32)))] oZ ∧ h0.size ≤ b5_0) := by
  refine own_body c2_ (plainFor_of_name pn_3) (fun m => ef_3n m o0 o1 (0 : Int32) (2 : Int32)) fun p e s m below meth c s₁ X0 H hnm Bret Blk e0 => ?_
  obtain ⟨hx, hZ, hown, hml, hby⟩ := id H
  have N0 := Fr.nil n0
  have K0 : Keep h0 h0 [o0] := Keep.refl h0 _
  refine oG X0 H r3_0_0 1 #[rv o0, rv o1, iv (0 : Int32), iv (2 : Int32), .val .null, oU] [(.ref o0)] ?_
  refine own_c1 (initO X0 hx hZ hown (hV hw 15) (hV hw 16) (hV hw 17) e0 rfl (by rw [hml]; rfl) rfl (hb hby d3_1) dE_ (W := 0) (by show 2 * 0 + _ ≤ _; exact Nat.le_of_eq rfl) dE_) fun T2 X2 e2 => ?_
  refine oIY X2 H r3_4_4 d3_5 27 #[rv o0, rv o1, iv (0 : Int32), iv (2 : Int32), .val .null, oU] [] rfl ((if0 _ _).trans (feq (by decide : ¬ ((2 : Int32) = (0 : Int32)))).2) ?_
  refine oGS X2 H (host := "") (Or.inl (hV hw 29)) Via.refl e2 (S_COMPACT_STRINGS.ext OZ.2) d3_27 fun T3 X3 e3 => ?_
  refine oIN X3 H oD0 d3_30 #[rv o0, rv o1, iv (0 : Int32), iv (2 : Int32), .val .null, oU] [] rfl ((if0 _ _).trans (feq hp0).1) ?_
  refine oH X3 H r3_33_35 36 [(.int (2 : Int32)), oZ, (.ref o1)] ?_
  refine ocS X3 H (wb1_ hw) (rm6_7 hw Z0 V_o1 hp1 hp2) e3 0 [(.ref o1), oZ, (.int (2 : Int32))] [] pd_5 d3_36 fun T5 _ _ X5 hQ5 => ?_
  obtain ⟨b5_0, k5_1, rfl, N5, K5, V_b5_0', sz_b5_0'⟩ := hQ5
  replace N0 := Fr.app N0 N5
  have sz_b5_0 := Nat.le_trans K0.1 sz_b5_0'
  have ne_o0_b5_0 := oNl E_o0.lt sz_b5_0'
  replace E_o0 := E_o0.keep K5
  replace F_value_o0 := F_value_o0.keep K5 nin0
  replace F_coder_o0 := F_coder_o0.keep K5 nin0
  replace K0 := K0.trans K5 all0
  replace Z0 := Nat.le_trans Z0 K5.1
  have V_b5_0 := V_b5_0'
  refine oG X5 H r3_39_44 45 #[rv o0, rv o1, iv (0 : Int32), iv (2 : Int32), .val .null, rv b5_0] [(.int (2 : Int32)), (.ref b5_0), (.ref o0)] ?_
  refine ocS X5 H (wb2_ hw) (rm8_8 hw Z0 V_b5_0) (rfl : T5.heap = _) 1 [(.ref b5_0), (.int (2 : Int32))] [(.ref o0)] pd_7 d3_45 fun T7 _ _ X7 hQ7 => ?_
  obtain ⟨rfl, N7, e7⟩ := hQ7
  replace N0 := Fr.app N0 N7
  refine own_c2 (putFN X7 hx hZ hown (hV hw 25) Via.refl e7 F_coder_o0 E_o0 (Or.inr ⟨(hV hw 21), rfl, hnm⟩) (hV hw 5) (ty := .byte) (v' := (.int (nar .byte (0 : Int32)))) dE_ rfl (fits_nar_byte _) rfl rfl (hb hby d3_48)) fun T8 h8 X8 e8 W8 => ?_
  replace F_coder_o0 := F_coder_o0.same W8
  replace E_o0 := E_o0.wr W8
  replace F_value_o0 := F_value_o0.other W8 (Or.inr (sn1 hw))
  replace V_b5_0 := V_b5_0.other W8 (Ne.symm ne_o0_b5_0)
  replace K0 := K0.wr W8 (Or.inl (List.mem_of_getElem? (i := 0) rfl))
  replace N0 := Fr.snoc X8 N0 g_o0
  refine oG X8 H r3_51_52 54 #[rv o0, rv o1, iv (0 : Int32), iv (2 : Int32), .val .null, rv b5_0] [(.ref b5_0), (.ref o0)] ?_
  refine own_c2 (putF X8 hx hZ hown (host := "") (Or.inl (hV hw 24)) Via.refl e8 F_value_o0 E_o0 (Or.inr ⟨(hV hw 20), rfl, hnm⟩) (hV hw 5) (ty := (.array .byte)) dE_ rfl rfl rfl rfl (hb hby d3_54)) fun T9 h9 X9 e9 W9 => ?_
  replace F_value_o0 := F_value_o0.same W9
  replace E_o0 := E_o0.wr W9
  replace F_coder_o0 := F_coder_o0.other W9 (Or.inr (sn0 hw))
  replace V_b5_0 := V_b5_0.other W9 (Ne.symm ne_o0_b5_0)
  replace K0 := K0.wr W9 (Or.inl (List.mem_of_getElem? (i := 0) rfl))
  replace N0 := Fr.snoc X9 N0 g_o0
  show own_Go p e below _ (T9.setTop (mkF m 57 #[rv o0, rv o1, iv (0 : Int32), iv (2 : Int32), .val .null, rv b5_0] []))
  exact own_retV X9 Blk hx Bret (hb hby d3_57) (by
      try rw [show T9.heap = h9 from e9]
      exact ⟨b5_0, k5_1, rfl, N0, K0, E_o0, F_value_o0, F_coder_o0, V_b5_0, sz_b5_0⟩) dE_ dE_

set_option maxRecDepth 65536 in
set_option maxHeartbeats 40000000 in
theorem rm2_10 (hw : oW_ a0 Z) (Z0 : n0 ≤ h0.size) (g_o0 : n0 ≤ o0) (E_o0 : Exa Z h0 o0 c2_) (F_value_o0 : Fld Z h0 o0 c2_ "value" "[B" .null) (F_coder_o0 : Fld Z h0 o0 c2_ "coder" "B" (.int i0)) (V_o1 : Arv Z h0 o1 k0 .char (2 : Int32) [(.int i1), (.int i2)] oZ) (S_COMPACT_STRINGS : Sta Z Z.heap c2_ c13_ "Z" (.int i3)) (OZ : Old Z n0 h0) (hp0 : ¬ (i3 = (0 : Int32))) (hp1 : ¬ ((255 : Int32) < i1)) (hp2 : ¬ ((255 : Int32) < i2)) :
    oM l y4_ jdk_42_method_3_code 2 none ws (rM_ 3 1 2 52) #[(.ref o0), (.ref o1)] Z h0 (fun v h L => ∃ b2_0 : Addr, ∃ k2_1 : ClassId, v = none ∧ Fr n0 L ∧ Keep h0 h [o0] ∧ Exa Z h o0 c2_ ∧ Fld Z h o0 c2_ "value" "[B" (.ref b2_0) ∧ Fld Z h o0 c2_ "coder" "B" oZ ∧ Arv Z h b2_0 k2_1 .byte (2 : Int32) [(.int (nar .byte (i1.toInt8.toInt32))), (.int (nar .byte (i2.toInt8.toInt32)))] oZ ∧ h0.size ≤ b2_0) := by
  refine own_body c2_ (plainFor_of_name pn_2) (fun m => ef_2 m o0 o1) fun p e s m below meth c s₁ X0 H hnm Bret Blk e0 => ?_
  obtain ⟨hx, _, _, _, hby⟩ := id H
  have N0 := Fr.nil n0
  have K0 : Keep h0 h0 [o0] := Keep.refl h0 _
  refine oG X0 H r2_0_3 4 #[rv o0, rv o1] [(.ref o1), oZ, (.ref o1), (.ref o0)] ?_
  refine oLen X0 H e0 V_o1 d2_4 ?_
  refine oH X0 H r2_5_5 6 [.null, (.int (2 : Int32)), oZ, (.ref o1), (.ref o0)] ?_
  refine ocI X0 H (wb3_ hw) (rm3_9 hw Z0 g_o0 E_o0 F_value_o0 F_coder_o0 V_o1 S_COMPACT_STRINGS OZ hp0 hp1 hp2) e0 0 o0 [(.ref o1), oZ, (.int (2 : Int32)), .null] [] pd_2 d2_6 fun T2 _ _ X2 hQ2 => ?_
  obtain ⟨b2_0, k2_1, rfl, N2, K2, E_o0', F_value_o0', F_coder_o0', V_b2_0', sz_b2_0'⟩ := hQ2
  replace N0 := Fr.app N0 N2
  have sz_b2_0 := Nat.le_trans K0.1 sz_b2_0'
  replace K0 := K0.trans K2 (allS (Or.inl (List.mem_of_getElem? (i := 0) rfl)) all0)
  replace E_o0 := E_o0'
  have F_value_o0 := F_value_o0'
  have F_coder_o0 : Fld Z T2.heap o0 c2_ "coder" "B" oZ := F_coder_o0'
  have V_b2_0 := V_b2_0'
  exact own_retV X2 Blk hx Bret (hb hby d2_9) ⟨b2_0, k2_1, rfl, N0, K0, E_o0, F_value_o0, F_coder_o0, V_b2_0, sz_b2_0⟩ dE_ dE_

set_option maxRecDepth 65536 in
set_option maxHeartbeats 40000000 in
theorem rm7_11 (hw : oW_ a0 Z) (Z0 : n0 ≤ h0.size) (V_o0 : Arv Z h0 o0 k0 .char (3 : Int32) [(.int i1), (.int i2), (.int i3)] oZ) (g_o1 : n0 ≤ o1) (V_o1 : Arv Z h0 o1 k1 .byte (3 : Int32) [] oZ) (ne_o0_o1 : o0 ≠ o1) (hp0 : (0 : Int32) < i0) (hp1 : ¬ ((255 : Int32) < i1)) (hp2 : (1 : Int32) < i0) (hp3 : ¬ ((255 : Int32) < i2)) (hp4 : (2 : Int32) < i0) (hp5 : ¬ ((255 : Int32) < i3)) (hp6 : ¬ ((3 : Int32) < i0)) :
    oM l y0_ jdk_52_method_21_code 7 (some .int) ws (rM_ 0 0 0 0) #[(.ref o0), oZ, (.ref o1), oZ, (.int i0)] Z h0 (fun v h L => v = some (.int i0) ∧ Fr n0 L ∧ Keep h0 h [o1] ∧ Arv Z h o1 k1 .byte (3 : Int32) [(.int (nar .byte (i1.toInt8.toInt32))), (.int (nar .byte (i2.toInt8.toInt32))), (.int (nar .byte (i3.toInt8.toInt32)))] oZ) := by
  refine own_body c18_ (plainFor_of_name pn_7) (fun m => ef_7 m o0 (0 : Int32) o1 (0 : Int32) i0) fun p e s m below meth c s₁ X0 H hnm Bret Blk e0 => ?_
  obtain ⟨hx, hZ, _, _, hby⟩ := id H
  have N0 := Fr.nil n0
  have K0 : Keep h0 h0 [o1] := Keep.refl h0 _
  refine oCN X0 H r7_0_5 d7_7 (lA1_ o0 (0 : Int32) o1 (0 : Int32) i0 (0 : Int32)) [] rfl (tlt hp0).2.1 ?_
  refine oH X0 H r7_10_11 12 [oZ, (.ref o0)] ?_
  refine oB_ (tF_ s₁ (mkF m 13 (lA1_ o0 (0 : Int32) o1 (0 : Int32) i0 (0 : Int32)) [(.int i1)])) (fun t k => ?_) ?_
  · obtain ⟨cl1, Ar1, _, S1, _, H1, _⟩ := id V_o0
    have hin1 : ¬ ((0 : Int32) < 0 ∨ cl1.slots.size ≤ ((0 : Int32)).toNatClampNeg) := inb_of S1 ⟨by decide, by decide⟩
    have hat1 : cl1.slots[((0 : Int32)).toNatClampNeg]? = some (.int i1) := H1.at hin1 rfl
    refine X0.caload hx (j := (0 : Int32)) (v := (.int i1)) (by rw [show s₁.heap = h0 from e0]; exact Ar1.1) (State.isArrayOf_alike hZ.alike Ar1.2.1) Ar1.2.2 hin1 hat1 (g := (mkF m 12 (lA1_ o0 (0 : Int32) o1 (0 : Int32) i0 (0 : Int32)) [oZ, (.ref o0)])) rfl rfl (hb hby d7_12) _ ?_
    exact k
  refine oG X0 H r7_13_15 17 (lA2_ o0 (0 : Int32) o1 (0 : Int32) i0 (0 : Int32) i1) [(.int i1)] ?_
  refine oB_ (tF_ s₁ (mkF m 20 (lA2_ o0 (0 : Int32) o1 (0 : Int32) i0 (0 : Int32) i1) [(.int (255 : Int32)), (.int i1)])) (fun t k => ?_) ?_
  · refine XS.sipush X0.here hx rfl (hb hby d7_17) ?_
    exact k
  refine oCY X0 H oD0 d7_20 26 (lA2_ o0 (0 : Int32) o1 (0 : Int32) i0 (0 : Int32) i1) [] rfl (flt hp1).2.2.2 ?_
  refine oH X0 H r7_26_28 30 [(.int i1), oZ, (.ref o1)] ?_
  refine oB_ (tF_ s₁ (mkF m 31 (lA2_ o0 (0 : Int32) o1 (0 : Int32) i0 (0 : Int32) i1) [(.int (i1.toInt8.toInt32)), oZ, (.ref o1)])) (fun t k => ?_) ?_
  · refine XS.i2b X0.here hx rfl (hb hby d7_30) rfl ?_
    exact k
  replace V_o1 : Arv Z h0 o1 k1 .byte (3 : Int32) [oZ] oZ := V_o1.pad (pad_rep [] oZ 1)
  obtain ⟨cl2, Ar2, q2, S2, N2, H2, G2⟩ := V_o1
  have hin2 : ¬ ((0 : Int32) < 0 ∨ cl2.slots.size ≤ ((0 : Int32)).toNatClampNeg) := inb_of S2 ⟨by decide, by decide⟩
  refine own_c2 (stB X0 hx hZ e0 Ar2 (j := (0 : Int32)) hin2 rfl rfl (hb hby d7_31)) fun T2 h2 X2 e2 W2 => ?_
  replace V_o1 : Arv Z h2 o1 k1 .byte (3 : Int32) [(.int (nar .byte (i1.toInt8.toInt32)))] oZ := Arv.set Ar2 q2 S2 N2 H2 G2 (fits_nar_byte _) W2 0 rfl nB_
  replace K0 := K0.wr W2 (Or.inl (List.mem_of_getElem? (i := 0) rfl))
  replace N0 := Fr.snoc X2 N0 g_o1
  refine oB_ (tF_ T2 (mkF m 35 (lA2_ o0 (1 : Int32) o1 (0 : Int32) i0 (0 : Int32) i1) [])) (fun t k => ?_) ?_
  · refine XS.iinc X2.here hx rfl (hb hby d7_32) rfl (l' := (lA2_ o0 (1 : Int32) o1 (0 : Int32) i0 (0 : Int32) i1)) rfl ?_
    exact k
  refine oB_ (tF_ T2 (mkF m 38 (lA2_ o0 (1 : Int32) o1 (1 : Int32) i0 (0 : Int32) i1) [])) (fun t k => ?_) ?_
  · refine XS.iinc X2.here hx rfl (hb hby d7_35) rfl (l' := (lA2_ o0 (1 : Int32) o1 (1 : Int32) i0 (0 : Int32) i1)) rfl ?_
    exact k
  refine oB_ (tF_ T2 (mkF m 41 (lA2_ o0 (1 : Int32) o1 (1 : Int32) i0 (1 : Int32) i1) [])) (fun t k => ?_) ?_
  · refine XS.iinc X2.here hx rfl (hb hby d7_38) rfl (l' := (lA2_ o0 (1 : Int32) o1 (1 : Int32) i0 (1 : Int32) i1)) rfl ?_
    exact k
  refine oCN X2 H r7_41_5 d7_7 (lA2_ o0 (1 : Int32) o1 (1 : Int32) i0 (1 : Int32) i1) [] rfl (tlt hp2).2.1 ?_
  refine oH X2 H r7_10_11 12 [(.int (1 : Int32)), (.ref o0)] ?_
  refine oB_ (tF_ T2 (mkF m 13 (lA2_ o0 (1 : Int32) o1 (1 : Int32) i0 (1 : Int32) i1) [(.int i2)])) (fun t k => ?_) ?_
  · obtain ⟨cl3, Ar3, _, S3, _, H3, _⟩ := id (V_o0.keep K0 (ninS ne_o0_o1 nin0))
    have hin3 : ¬ ((1 : Int32) < 0 ∨ cl3.slots.size ≤ ((1 : Int32)).toNatClampNeg) := inb_of S3 ⟨by decide, by decide⟩
    have hat3 : cl3.slots[((1 : Int32)).toNatClampNeg]? = some (.int i2) := H3.at hin3 rfl
    refine X2.caload hx (j := (1 : Int32)) (v := (.int i2)) (by rw [show T2.heap = h2 from e2]; exact Ar3.1) (State.isArrayOf_alike hZ.alike Ar3.2.1) Ar3.2.2 hin3 hat3 (g := (mkF m 12 (lA2_ o0 (1 : Int32) o1 (1 : Int32) i0 (1 : Int32) i1) [(.int (1 : Int32)), (.ref o0)])) rfl rfl (hb hby d7_12) _ ?_
    exact k
  refine oG X2 H r7_13_15 17 (lA2_ o0 (1 : Int32) o1 (1 : Int32) i0 (1 : Int32) i2) [(.int i2)] ?_
  refine oB_ (tF_ T2 (mkF m 20 (lA2_ o0 (1 : Int32) o1 (1 : Int32) i0 (1 : Int32) i2) [(.int (255 : Int32)), (.int i2)])) (fun t k => ?_) ?_
  · refine XS.sipush X2.here hx rfl (hb hby d7_17) ?_
    exact k
  refine oCY X2 H oD0 d7_20 26 (lA2_ o0 (1 : Int32) o1 (1 : Int32) i0 (1 : Int32) i2) [] rfl (flt hp3).2.2.2 ?_
  refine oH X2 H r7_26_28 30 [(.int i2), (.int (1 : Int32)), (.ref o1)] ?_
  refine oB_ (tF_ T2 (mkF m 31 (lA2_ o0 (1 : Int32) o1 (1 : Int32) i0 (1 : Int32) i2) [(.int (i2.toInt8.toInt32)), (.int (1 : Int32)), (.ref o1)])) (fun t k => ?_) ?_
  · refine XS.i2b X2.here hx rfl (hb hby d7_30) rfl ?_
    exact k
  replace V_o1 : Arv Z h2 o1 k1 .byte (3 : Int32) [(.int (nar .byte (i1.toInt8.toInt32))), oZ] oZ := V_o1.pad (pad_rep [(.int (nar .byte (i1.toInt8.toInt32)))] oZ 1)
  obtain ⟨cl4, Ar4, q4, S4, N4, H4, G4⟩ := V_o1
  have hin4 : ¬ ((1 : Int32) < 0 ∨ cl4.slots.size ≤ ((1 : Int32)).toNatClampNeg) := inb_of S4 ⟨by decide, by decide⟩
  refine own_c2 (stB X2 hx hZ e2 Ar4 (j := (1 : Int32)) hin4 rfl rfl (hb hby d7_31)) fun T4 h4 X4 e4 W4 => ?_
  replace V_o1 : Arv Z h4 o1 k1 .byte (3 : Int32) [(.int (nar .byte (i1.toInt8.toInt32))), (.int (nar .byte (i2.toInt8.toInt32)))] oZ := Arv.set Ar4 q4 S4 N4 H4 G4 (fits_nar_byte _) W4 1 rfl nB_
  replace K0 := K0.wr W4 (Or.inl (List.mem_of_getElem? (i := 0) rfl))
  replace N0 := Fr.snoc X4 N0 g_o1
  refine oB_ (tF_ T4 (mkF m 35 (lA2_ o0 (2 : Int32) o1 (1 : Int32) i0 (1 : Int32) i2) [])) (fun t k => ?_) ?_
  · refine XS.iinc X4.here hx rfl (hb hby d7_32) rfl (l' := (lA2_ o0 (2 : Int32) o1 (1 : Int32) i0 (1 : Int32) i2)) rfl ?_
    exact k
  refine oB_ (tF_ T4 (mkF m 38 (lA2_ o0 (2 : Int32) o1 (2 : Int32) i0 (1 : Int32) i2) [])) (fun t k => ?_) ?_
  · refine XS.iinc X4.here hx rfl (hb hby d7_35) rfl (l' := (lA2_ o0 (2 : Int32) o1 (2 : Int32) i0 (1 : Int32) i2)) rfl ?_
    exact k
  refine oB_ (tF_ T4 (mkF m 41 (lA2_ o0 (2 : Int32) o1 (2 : Int32) i0 (2 : Int32) i2) [])) (fun t k => ?_) ?_
  · refine XS.iinc X4.here hx rfl (hb hby d7_38) rfl (l' := (lA2_ o0 (2 : Int32) o1 (2 : Int32) i0 (2 : Int32) i2)) rfl ?_
    exact k
  refine oCN X4 H r7_41_5 d7_7 (lA2_ o0 (2 : Int32) o1 (2 : Int32) i0 (2 : Int32) i2) [] rfl (tlt hp4).2.1 ?_
  refine oH X4 H r7_10_11 12 [(.int (2 : Int32)), (.ref o0)] ?_
  refine oB_ (tF_ T4 (mkF m 13 (lA2_ o0 (2 : Int32) o1 (2 : Int32) i0 (2 : Int32) i2) [(.int i3)])) (fun t k => ?_) ?_
  · obtain ⟨cl5, Ar5, _, S5, _, H5, _⟩ := id (V_o0.keep K0 (ninS ne_o0_o1 nin0))
    have hin5 : ¬ ((2 : Int32) < 0 ∨ cl5.slots.size ≤ ((2 : Int32)).toNatClampNeg) := inb_of S5 ⟨by decide, by decide⟩
    have hat5 : cl5.slots[((2 : Int32)).toNatClampNeg]? = some (.int i3) := H5.at hin5 rfl
    refine X4.caload hx (j := (2 : Int32)) (v := (.int i3)) (by rw [show T4.heap = h4 from e4]; exact Ar5.1) (State.isArrayOf_alike hZ.alike Ar5.2.1) Ar5.2.2 hin5 hat5 (g := (mkF m 12 (lA2_ o0 (2 : Int32) o1 (2 : Int32) i0 (2 : Int32) i2) [(.int (2 : Int32)), (.ref o0)])) rfl rfl (hb hby d7_12) _ ?_
    exact k
  refine oG X4 H r7_13_15 17 (lA2_ o0 (2 : Int32) o1 (2 : Int32) i0 (2 : Int32) i3) [(.int i3)] ?_
  refine oB_ (tF_ T4 (mkF m 20 (lA2_ o0 (2 : Int32) o1 (2 : Int32) i0 (2 : Int32) i3) [(.int (255 : Int32)), (.int i3)])) (fun t k => ?_) ?_
  · refine XS.sipush X4.here hx rfl (hb hby d7_17) ?_
    exact k
  refine oCY X4 H oD0 d7_20 26 (lA2_ o0 (2 : Int32) o1 (2 : Int32) i0 (2 : Int32) i3) [] rfl (flt hp5).2.2.2 ?_
  refine oH X4 H r7_26_28 30 [(.int i3), (.int (2 : Int32)), (.ref o1)] ?_
  refine oB_ (tF_ T4 (mkF m 31 (lA2_ o0 (2 : Int32) o1 (2 : Int32) i0 (2 : Int32) i3) [(.int (i3.toInt8.toInt32)), (.int (2 : Int32)), (.ref o1)])) (fun t k => ?_) ?_
  · refine XS.i2b X4.here hx rfl (hb hby d7_30) rfl ?_
    exact k
  replace V_o1 : Arv Z h4 o1 k1 .byte (3 : Int32) [(.int (nar .byte (i1.toInt8.toInt32))), (.int (nar .byte (i2.toInt8.toInt32))), oZ] oZ := V_o1.pad (pad_rep [(.int (nar .byte (i1.toInt8.toInt32))), (.int (nar .byte (i2.toInt8.toInt32)))] oZ 1)
  obtain ⟨cl6, Ar6, q6, S6, N6, H6, G6⟩ := V_o1
  have hin6 : ¬ ((2 : Int32) < 0 ∨ cl6.slots.size ≤ ((2 : Int32)).toNatClampNeg) := inb_of S6 ⟨by decide, by decide⟩
  refine own_c2 (stB X4 hx hZ e4 Ar6 (j := (2 : Int32)) hin6 rfl rfl (hb hby d7_31)) fun T6 h6 X6 e6 W6 => ?_
  replace V_o1 : Arv Z h6 o1 k1 .byte (3 : Int32) [(.int (nar .byte (i1.toInt8.toInt32))), (.int (nar .byte (i2.toInt8.toInt32))), (.int (nar .byte (i3.toInt8.toInt32)))] oZ := Arv.set Ar6 q6 S6 N6 H6 G6 (fits_nar_byte _) W6 2 rfl nB_
  replace K0 := K0.wr W6 (Or.inl (List.mem_of_getElem? (i := 0) rfl))
  replace N0 := Fr.snoc X6 N0 g_o1
  refine oB_ (tF_ T6 (mkF m 35 (lA2_ o0 (3 : Int32) o1 (2 : Int32) i0 (2 : Int32) i3) [])) (fun t k => ?_) ?_
  · refine XS.iinc X6.here hx rfl (hb hby d7_32) rfl (l' := (lA2_ o0 (3 : Int32) o1 (2 : Int32) i0 (2 : Int32) i3)) rfl ?_
    exact k
  refine oB_ (tF_ T6 (mkF m 38 (lA2_ o0 (3 : Int32) o1 (3 : Int32) i0 (2 : Int32) i3) [])) (fun t k => ?_) ?_
  · refine XS.iinc X6.here hx rfl (hb hby d7_35) rfl (l' := (lA2_ o0 (3 : Int32) o1 (3 : Int32) i0 (2 : Int32) i3)) rfl ?_
    exact k
  refine oB_ (tF_ T6 (mkF m 41 (lA2_ o0 (3 : Int32) o1 (3 : Int32) i0 (3 : Int32) i3) [])) (fun t k => ?_) ?_
  · refine XS.iinc X6.here hx rfl (hb hby d7_38) rfl (l' := (lA2_ o0 (3 : Int32) o1 (3 : Int32) i0 (3 : Int32) i3)) rfl ?_
    exact k
  refine oCY X6 H r7_41_5 d7_7 44 (lA2_ o0 (3 : Int32) o1 (3 : Int32) i0 (3 : Int32) i3) [] rfl (flt hp6).2.1 ?_
  refine oH X6 H r7_44_44 46 [(.int i0)] ?_
  exact own_retI X6 Blk hx Bret (hb hby d7_46) (by
      try rw [show T6.heap = h6 from e6]
      exact ⟨rfl, N0, K0, V_o1⟩) dE_ dE_

set_option maxRecDepth 65536 in
set_option maxHeartbeats 40000000 in
theorem rm6_12 (hw : oW_ a0 Z) (Z0 : n0 ≤ h0.size) (V_o0 : Arv Z h0 o0 k0 .char (3 : Int32) [(.int i0), (.int i1), (.int i2)] oZ) (hp0 : ¬ ((255 : Int32) < i0)) (hp1 : ¬ ((255 : Int32) < i1)) (hp2 : ¬ ((255 : Int32) < i2)) :
    oM l y1_ jdk_52_method_16_code 6 (some (.array .byte)) ws (rM_ 1 1 3 18) #[(.ref o0), oZ, (.int (3 : Int32))] Z h0 (fun v h L => ∃ b1 : Addr, ∃ k1 : ClassId, v = some (.ref b1) ∧ Fr n0 L ∧ Keep h0 h [] ∧ Arv Z h b1 k1 .byte (3 : Int32) [(.int (nar .byte (i0.toInt8.toInt32))), (.int (nar .byte (i1.toInt8.toInt32))), (.int (nar .byte (i2.toInt8.toInt32)))] oZ ∧ h0.size ≤ b1) := by
  refine own_body c18_ (plainFor_of_name pn_6) (fun m => ef_6 m o0 (0 : Int32) (3 : Int32)) fun p e s m below meth c s₁ X0 H hnm Bret Blk e0 => ?_
  obtain ⟨hx, hZ, _, _, hby⟩ := id H
  have N0 := Fr.nil n0
  have K0 : Keep h0 h0 [] := Keep.refl h0 _
  refine oG X0 H r6_0_0 1 (lA3_ o0 (0 : Int32) (3 : Int32)) [(.int (3 : Int32))] ?_
  obtain ⟨T1, h1, k1, X1, e1, E1, A1, st1⟩ := newP X0 hx hZ (hV hw 19) e0 (g := (mkF m 1 (lA3_ o0 (0 : Int32) (3 : Int32)) [(.int (3 : Int32))])) rfl (hb hby d6_1) rfl dE_ (cap := 3) dE_ dE_ dE_ dE_
  obtain ⟨b1, g1⟩ : ∃ z, z = h0.size := ⟨_, rfl⟩
  rw [← g1] at A1 st1
  have g_b1 : n0 ≤ b1 := Nat.le_trans Z0 (Nat.le_of_eq g1.symm)
  have sz_b1 : h0.size ≤ b1 := Nat.le_trans K0.1 (Nat.le_of_eq g1.symm)
  replace K0 := K0.ext E1
  replace Z0 := Nat.le_trans Z0 E1.1
  have V_b1 : Arv Z h1 b1 k1 .byte (3 : Int32) [] oZ := Arv.new A1 dE_
  refine own_by st1 ?_
  refine oG X1 H r6_3_8 9 (lA4_ o0 (0 : Int32) (3 : Int32) b1) [(.int (3 : Int32)), oZ, (.ref b1), oZ, (.ref o0)] ?_
  refine ocS X1 H (wb0_ hw) (rm7_11 hw Z0 (V_o0.keep K0 nin0) g_b1 V_b1 (oNl V_o0.lt sz_b1) (by decide : (0 : Int32) < (3 : Int32)) hp0 (by decide : (1 : Int32) < (3 : Int32)) hp1 (by decide : (2 : Int32) < (3 : Int32)) hp2 (by decide : ¬ ((3 : Int32) < (3 : Int32)))) e1 0 [(.ref o0), oZ, (.ref b1), oZ, (.int (3 : Int32))] [] pd_6 d6_9 fun T3 _ _ X3 hQ3 => ?_
  obtain ⟨rfl, N3, K3, V_b1'⟩ := hQ3
  replace N0 := Fr.app N0 N3
  replace K0 := K0.trans K3 (allS (Or.inr sz_b1) all0)
  have V_b1 := V_b1'
  refine oCY X3 H r6_12_16 d6_17 57 (lA5_ o0 (0 : Int32) (3 : Int32) b1 (3 : Int32)) [] rfl (teq (by decide : (3 : Int32) = (3 : Int32))).1 ?_
  refine oH X3 H r6_57_57 58 [(.ref b1)] ?_
  exact own_retR X3 Blk hx Bret rfl rfl rfl (hb hby d6_58) ⟨b1, k1, rfl, N0, K0, V_b1, sz_b1⟩ dE_ dE_

set_option maxRecDepth 65536 in
set_option maxHeartbeats 40000000 in
theorem rm8_13 (hw : oW_ a0 Z) (Z0 : n0 ≤ h0.size) (V_o0 : Arv Z h0 o0 k0 .byte (3 : Int32) [(.int i1), (.int i2), (.int i3)] oZ) :
    oM l y2_ jdk_52_method_15_code 2 (some .byte) ws (rM_ 0 0 0 0) #[(.ref o0), (.int i0)] Z h0 (fun v h L => v = some (.int (nar .byte ((((i0 - (3 : Int32)).toUInt32 >>> ((31 : Int32) &&& 31).toUInt32).toInt32).toInt8.toInt32))) ∧ Fr n0 L ∧ h = h0) := by
  refine own_body c18_ (plainFor_of_name pn_8) (fun m => ef_8 m o0 i0) fun p e s m below meth c s₁ X0 H hnm Bret Blk e0 => ?_
  obtain ⟨hx, _, _, _, hby⟩ := id H
  have N0 := Fr.nil n0
  refine oG X0 H r8_0_1 2 #[rv o0, iv i0] [(.ref o0), (.int i0)] ?_
  refine oLen X0 H e0 V_o0 d8_2 ?_
  refine oB_ (tF_ s₁ (mkF m 4 #[rv o0, iv i0] [(.int (i0 - (3 : Int32)))])) (fun t k => ?_) ?_
  · refine XS.isub X0.here hx rfl (hb hby d8_3) rfl ?_
    exact k
  refine oH X0 H r8_4_4 6 [(.int (31 : Int32)), (.int (i0 - (3 : Int32)))] ?_
  refine oB_ (tF_ s₁ (mkF m 7 #[rv o0, iv i0] [(.int (((i0 - (3 : Int32)).toUInt32 >>> ((31 : Int32) &&& 31).toUInt32).toInt32))])) (fun t k => ?_) ?_
  · refine XS.iushr X0.here hx rfl (hb hby d8_6) rfl ?_
    exact k
  refine oB_ (tF_ s₁ (mkF m 8 #[rv o0, iv i0] [(.int ((((i0 - (3 : Int32)).toUInt32 >>> ((31 : Int32) &&& 31).toUInt32).toInt32).toInt8.toInt32))])) (fun t k => ?_) ?_
  · refine XS.i2b X0.here hx rfl (hb hby d8_7) rfl ?_
    exact k
  exact own_retN X0 Blk hx (t := .byte) Bret (by simp) (hb hby d8_8) (by
      try rw [show s₁.heap = h0 from e0]
      exact ⟨rfl, N0, rfl⟩) dE_ dE_

set_option maxRecDepth 65536 in
set_option maxHeartbeats 40000000 in
theorem rm3_14 (hw : oW_ a0 Z) (Z0 : n0 ≤ h0.size) (g_o0 : n0 ≤ o0) (E_o0 : Exa Z h0 o0 c2_) (F_value_o0 : Fld Z h0 o0 c2_ "value" "[B" .null) (F_coder_o0 : Fld Z h0 o0 c2_ "coder" "B" (.int i0)) (V_o1 : Arv Z h0 o1 k0 .char (3 : Int32) [(.int i1), (.int i2), (.int i3)] oZ) (S_COMPACT_STRINGS : Sta Z Z.heap c2_ c13_ "Z" (.int i4)) (OZ : Old Z n0 h0) (hp0 : ¬ (i4 = (0 : Int32))) (hp1 : ¬ ((255 : Int32) < i1)) (hp2 : ¬ ((255 : Int32) < i2)) (hp3 : ¬ ((255 : Int32) < i3)) :
    oM l y3_ jdk_42_method_149_code 6 none ws (rM_ 2 1 3 35) #[(.ref o0), (.ref o1), oZ, (.int (3 : Int32)), .null] Z h0 (fun v h L => ∃ b5_0 : Addr, ∃ k5_1 : ClassId, v = none ∧ Fr n0 L ∧ Keep h0 h [o0] ∧ Exa Z h o0 c2_ ∧ Fld Z h o0 c2_ "value" "[B" (.ref b5_0) ∧ Fld Z h o0 c2_ "coder" "B" (.int (nar .byte (0 : Int32))) ∧ Arv Z h b5_0 k5_1 .byte (3 : Int32) [(.int (nar .byte (i1.toInt8.toInt32))), (.int (nar .byte (i2.toInt8.toInt32))), (.int (nar .byte (i3.toInt8.toInt32)))] oZ ∧ h0.size ≤ b5_0) := by
  refine own_body c2_ (plainFor_of_name pn_3) (fun m => ef_3n m o0 o1 (0 : Int32) (3 : Int32)) fun p e s m below meth c s₁ X0 H hnm Bret Blk e0 => ?_
  obtain ⟨hx, hZ, hown, hml, hby⟩ := id H
  have N0 := Fr.nil n0
  have K0 : Keep h0 h0 [o0] := Keep.refl h0 _
  refine oG X0 H r3_0_0 1 #[rv o0, rv o1, iv (0 : Int32), iv (3 : Int32), .val .null, oU] [(.ref o0)] ?_
  refine own_c1 (initO X0 hx hZ hown (hV hw 15) (hV hw 16) (hV hw 17) e0 rfl (by rw [hml]; rfl) rfl (hb hby d3_1) dE_ (W := 0) (by show 2 * 0 + _ ≤ _; exact Nat.le_of_eq rfl) dE_) fun T2 X2 e2 => ?_
  refine oIY X2 H r3_4_4 d3_5 27 #[rv o0, rv o1, iv (0 : Int32), iv (3 : Int32), .val .null, oU] [] rfl ((if0 _ _).trans (feq (by decide : ¬ ((3 : Int32) = (0 : Int32)))).2) ?_
  refine oGS X2 H (host := "") (Or.inl (hV hw 29)) Via.refl e2 (S_COMPACT_STRINGS.ext OZ.2) d3_27 fun T3 X3 e3 => ?_
  refine oIN X3 H oD0 d3_30 #[rv o0, rv o1, iv (0 : Int32), iv (3 : Int32), .val .null, oU] [] rfl ((if0 _ _).trans (feq hp0).1) ?_
  refine oH X3 H r3_33_35 36 [(.int (3 : Int32)), oZ, (.ref o1)] ?_
  refine ocS X3 H (wb1_ hw) (rm6_12 hw Z0 V_o1 hp1 hp2 hp3) e3 0 [(.ref o1), oZ, (.int (3 : Int32))] [] pd_5 d3_36 fun T5 _ _ X5 hQ5 => ?_
  obtain ⟨b5_0, k5_1, rfl, N5, K5, V_b5_0', sz_b5_0'⟩ := hQ5
  replace N0 := Fr.app N0 N5
  have sz_b5_0 := Nat.le_trans K0.1 sz_b5_0'
  have ne_o0_b5_0 := oNl E_o0.lt sz_b5_0'
  replace E_o0 := E_o0.keep K5
  replace F_value_o0 := F_value_o0.keep K5 nin0
  replace F_coder_o0 := F_coder_o0.keep K5 nin0
  replace K0 := K0.trans K5 all0
  replace Z0 := Nat.le_trans Z0 K5.1
  have V_b5_0 := V_b5_0'
  refine oG X5 H r3_39_44 45 #[rv o0, rv o1, iv (0 : Int32), iv (3 : Int32), .val .null, rv b5_0] [(.int (3 : Int32)), (.ref b5_0), (.ref o0)] ?_
  refine ocS X5 H (wb2_ hw) (rm8_13 hw Z0 V_b5_0) (rfl : T5.heap = _) 1 [(.ref b5_0), (.int (3 : Int32))] [(.ref o0)] pd_7 d3_45 fun T7 _ _ X7 hQ7 => ?_
  obtain ⟨rfl, N7, e7⟩ := hQ7
  replace N0 := Fr.app N0 N7
  refine own_c2 (putFN X7 hx hZ hown (hV hw 25) Via.refl e7 F_coder_o0 E_o0 (Or.inr ⟨(hV hw 21), rfl, hnm⟩) (hV hw 5) (ty := .byte) (v' := (.int (nar .byte (0 : Int32)))) dE_ rfl (fits_nar_byte _) rfl rfl (hb hby d3_48)) fun T8 h8 X8 e8 W8 => ?_
  replace F_coder_o0 := F_coder_o0.same W8
  replace E_o0 := E_o0.wr W8
  replace F_value_o0 := F_value_o0.other W8 (Or.inr (sn1 hw))
  replace V_b5_0 := V_b5_0.other W8 (Ne.symm ne_o0_b5_0)
  replace K0 := K0.wr W8 (Or.inl (List.mem_of_getElem? (i := 0) rfl))
  replace N0 := Fr.snoc X8 N0 g_o0
  refine oG X8 H r3_51_52 54 #[rv o0, rv o1, iv (0 : Int32), iv (3 : Int32), .val .null, rv b5_0] [(.ref b5_0), (.ref o0)] ?_
  refine own_c2 (putF X8 hx hZ hown (host := "") (Or.inl (hV hw 24)) Via.refl e8 F_value_o0 E_o0 (Or.inr ⟨(hV hw 20), rfl, hnm⟩) (hV hw 5) (ty := (.array .byte)) dE_ rfl rfl rfl rfl (hb hby d3_54)) fun T9 h9 X9 e9 W9 => ?_
  replace F_value_o0 := F_value_o0.same W9
  replace E_o0 := E_o0.wr W9
  replace F_coder_o0 := F_coder_o0.other W9 (Or.inr (sn0 hw))
  replace V_b5_0 := V_b5_0.other W9 (Ne.symm ne_o0_b5_0)
  replace K0 := K0.wr W9 (Or.inl (List.mem_of_getElem? (i := 0) rfl))
  replace N0 := Fr.snoc X9 N0 g_o0
  show own_Go p e below _ (T9.setTop (mkF m 57 #[rv o0, rv o1, iv (0 : Int32), iv (3 : Int32), .val .null, rv b5_0] []))
  exact own_retV X9 Blk hx Bret (hb hby d3_57) (by
      try rw [show T9.heap = h9 from e9]
      exact ⟨b5_0, k5_1, rfl, N0, K0, E_o0, F_value_o0, F_coder_o0, V_b5_0, sz_b5_0⟩) dE_ dE_

set_option maxRecDepth 65536 in
set_option maxHeartbeats 40000000 in
theorem rm2_15 (hw : oW_ a0 Z) (Z0 : n0 ≤ h0.size) (g_o0 : n0 ≤ o0) (E_o0 : Exa Z h0 o0 c2_) (F_value_o0 : Fld Z h0 o0 c2_ "value" "[B" .null) (F_coder_o0 : Fld Z h0 o0 c2_ "coder" "B" (.int i0)) (V_o1 : Arv Z h0 o1 k0 .char (3 : Int32) [(.int i1), (.int i2), (.int i3)] oZ) (S_COMPACT_STRINGS : Sta Z Z.heap c2_ c13_ "Z" (.int i4)) (OZ : Old Z n0 h0) (hp0 : ¬ (i4 = (0 : Int32))) (hp1 : ¬ ((255 : Int32) < i1)) (hp2 : ¬ ((255 : Int32) < i2)) (hp3 : ¬ ((255 : Int32) < i3)) :
    oM l y4_ jdk_42_method_3_code 2 none ws (rM_ 3 1 3 52) #[(.ref o0), (.ref o1)] Z h0 (fun v h L => ∃ b2_0 : Addr, ∃ k2_1 : ClassId, v = none ∧ Fr n0 L ∧ Keep h0 h [o0] ∧ Exa Z h o0 c2_ ∧ Fld Z h o0 c2_ "value" "[B" (.ref b2_0) ∧ Fld Z h o0 c2_ "coder" "B" oZ ∧ Arv Z h b2_0 k2_1 .byte (3 : Int32) [(.int (nar .byte (i1.toInt8.toInt32))), (.int (nar .byte (i2.toInt8.toInt32))), (.int (nar .byte (i3.toInt8.toInt32)))] oZ ∧ h0.size ≤ b2_0) := by
  refine own_body c2_ (plainFor_of_name pn_2) (fun m => ef_2 m o0 o1) fun p e s m below meth c s₁ X0 H hnm Bret Blk e0 => ?_
  obtain ⟨hx, _, _, _, hby⟩ := id H
  have N0 := Fr.nil n0
  have K0 : Keep h0 h0 [o0] := Keep.refl h0 _
  refine oG X0 H r2_0_3 4 #[rv o0, rv o1] [(.ref o1), oZ, (.ref o1), (.ref o0)] ?_
  refine oLen X0 H e0 V_o1 d2_4 ?_
  refine oH X0 H r2_5_5 6 [.null, (.int (3 : Int32)), oZ, (.ref o1), (.ref o0)] ?_
  refine ocI X0 H (wb3_ hw) (rm3_14 hw Z0 g_o0 E_o0 F_value_o0 F_coder_o0 V_o1 S_COMPACT_STRINGS OZ hp0 hp1 hp2 hp3) e0 0 o0 [(.ref o1), oZ, (.int (3 : Int32)), .null] [] pd_2 d2_6 fun T2 _ _ X2 hQ2 => ?_
  obtain ⟨b2_0, k2_1, rfl, N2, K2, E_o0', F_value_o0', F_coder_o0', V_b2_0', sz_b2_0'⟩ := hQ2
  replace N0 := Fr.app N0 N2
  have sz_b2_0 := Nat.le_trans K0.1 sz_b2_0'
  replace K0 := K0.trans K2 (allS (Or.inl (List.mem_of_getElem? (i := 0) rfl)) all0)
  replace E_o0 := E_o0'
  have F_value_o0 := F_value_o0'
  have F_coder_o0 : Fld Z T2.heap o0 c2_ "coder" "B" oZ := F_coder_o0'
  have V_b2_0 := V_b2_0'
  exact own_retV X2 Blk hx Bret (hb hby d2_9) ⟨b2_0, k2_1, rfl, N0, K0, E_o0, F_value_o0, F_coder_o0, V_b2_0, sz_b2_0⟩ dE_ dE_

theorem d1_0 : dC5_ 0 (.iload_n 1, 1) := by decide +kernel
theorem d1_1 : dC5_ 1 (.sipush 255, 3) := by decide +kernel
theorem d1_4 : dC5_ 4 (.iand, 1) := by decide +kernel
theorem d1_5 : dC5_ 5 (.i2c, 1) := by decide +kernel
theorem d1_6 : dC5_ 6 (.istore_n 2, 1) := by decide +kernel
theorem d1_7 : dC5_ 7 (.iload_n 1, 1) := by decide +kernel
theorem d1_8 : dC5_ 8 (.bipush 8, 2) := by decide +kernel
theorem d1_10 : dC5_ 10 (.iushr, 1) := by decide +kernel
theorem d1_11 : dC5_ 11 (.sipush 255, 3) := by decide +kernel
theorem d1_14 : dC5_ 14 (.iand, 1) := by decide +kernel
theorem d1_15 : dC5_ 15 (.i2c, 1) := by decide +kernel
theorem d1_16 : dC5_ 16 (.istore_n 3, 1) := by decide +kernel
theorem d1_17 : dC5_ 17 (.iload_n 1, 1) := by decide +kernel
theorem d1_18 : dC5_ 18 (.bipush 16, 2) := by decide +kernel
theorem d1_20 : dC5_ 20 (.iushr, 1) := by decide +kernel
theorem d1_21 : dC5_ 21 (.sipush 255, 3) := by decide +kernel
theorem d1_24 : dC5_ 24 (.iand, 1) := by decide +kernel
theorem d1_25 : dC5_ 25 (.i2c, 1) := by decide +kernel
theorem d1_26 : dC5_ 26 (.istore 4, 2) := by decide +kernel
theorem d1_28 : dC5_ 28 (.iload_n 0, 1) := by decide +kernel
theorem d1_29 : dC5_ 29 (.ifCond .ne 14, 3) := by decide +kernel
theorem d1_32 : dC5_ 32 (.new 7, 3) := by decide +kernel
theorem d1_35 : dC5_ 35 (.dup, 1) := by decide +kernel
theorem d1_36 : dC5_ 36 (.iconst 0, 1) := by decide +kernel
theorem d1_37 : dC5_ 37 (.newarray .char, 2) := by decide +kernel
theorem d1_39 : dC5_ 39 (.invokespecial 9, 3) := by decide +kernel
theorem d1_42 : dC5_ 42 (.areturn, 1) := by decide +kernel
theorem d1_43 : dC5_ 43 (.iload_n 0, 1) := by decide +kernel
theorem d1_44 : dC5_ 44 (.iconst 1, 1) := by decide +kernel
theorem d1_45 : dC5_ 45 (.if_icmp .ne 18, 3) := by decide +kernel
theorem d1_48 : dC5_ 48 (.new 7, 3) := by decide +kernel
theorem d1_51 : dC5_ 51 (.dup, 1) := by decide +kernel
theorem d1_52 : dC5_ 52 (.iconst 1, 1) := by decide +kernel
theorem d1_53 : dC5_ 53 (.newarray .char, 2) := by decide +kernel
theorem d1_55 : dC5_ 55 (.dup, 1) := by decide +kernel
theorem d1_56 : dC5_ 56 (.iconst 0, 1) := by decide +kernel
theorem d1_57 : dC5_ 57 (.iload_n 2, 1) := by decide +kernel
theorem d1_58 : dC5_ 58 (.castore, 1) := by decide +kernel
theorem d1_59 : dC5_ 59 (.invokespecial 9, 3) := by decide +kernel
theorem d1_62 : dC5_ 62 (.areturn, 1) := by decide +kernel
theorem d1_63 : dC5_ 63 (.iload_n 0, 1) := by decide +kernel
theorem d1_64 : dC5_ 64 (.iconst 2, 1) := by decide +kernel
theorem d1_65 : dC5_ 65 (.if_icmp .ne 22, 3) := by decide +kernel
theorem d1_68 : dC5_ 68 (.new 7, 3) := by decide +kernel
theorem d1_71 : dC5_ 71 (.dup, 1) := by decide +kernel
theorem d1_72 : dC5_ 72 (.iconst 2, 1) := by decide +kernel
theorem d1_73 : dC5_ 73 (.newarray .char, 2) := by decide +kernel
theorem d1_75 : dC5_ 75 (.dup, 1) := by decide +kernel
theorem d1_76 : dC5_ 76 (.iconst 0, 1) := by decide +kernel
theorem d1_77 : dC5_ 77 (.iload_n 2, 1) := by decide +kernel
theorem d1_78 : dC5_ 78 (.castore, 1) := by decide +kernel
theorem d1_79 : dC5_ 79 (.dup, 1) := by decide +kernel
theorem d1_80 : dC5_ 80 (.iconst 1, 1) := by decide +kernel
theorem d1_81 : dC5_ 81 (.iload_n 3, 1) := by decide +kernel
theorem d1_82 : dC5_ 82 (.castore, 1) := by decide +kernel
theorem d1_83 : dC5_ 83 (.invokespecial 9, 3) := by decide +kernel
theorem d1_86 : dC5_ 86 (.areturn, 1) := by decide +kernel
theorem d1_87 : dC5_ 87 (.new 7, 3) := by decide +kernel
theorem d1_90 : dC5_ 90 (.dup, 1) := by decide +kernel
theorem d1_91 : dC5_ 91 (.iconst 3, 1) := by decide +kernel
theorem d1_92 : dC5_ 92 (.newarray .char, 2) := by decide +kernel
theorem d1_94 : dC5_ 94 (.dup, 1) := by decide +kernel
theorem d1_95 : dC5_ 95 (.iconst 0, 1) := by decide +kernel
theorem d1_96 : dC5_ 96 (.iload_n 2, 1) := by decide +kernel
theorem d1_97 : dC5_ 97 (.castore, 1) := by decide +kernel
theorem d1_98 : dC5_ 98 (.dup, 1) := by decide +kernel
theorem d1_99 : dC5_ 99 (.iconst 1, 1) := by decide +kernel
theorem d1_100 : dC5_ 100 (.iload_n 3, 1) := by decide +kernel
theorem d1_101 : dC5_ 101 (.castore, 1) := by decide +kernel
theorem d1_102 : dC5_ 102 (.dup, 1) := by decide +kernel
theorem d1_103 : dC5_ 103 (.iconst 2, 1) := by decide +kernel
theorem d1_104 : dC5_ 104 (.iload 4, 2) := by decide +kernel
theorem d1_106 : dC5_ 106 (.castore, 1) := by decide +kernel
theorem d1_107 : dC5_ 107 (.invokespecial 9, 3) := by decide +kernel
theorem d1_110 : dC5_ 110 (.areturn, 1) := by decide +kernel
theorem r1_0_0 : oDec method_2_code [(0, .iload_n 1, 1)] := by decide +kernel
theorem r1_6_8 : oDec method_2_code [(6, .istore_n 2, 1), (7, .iload_n 1, 1), (8, .bipush 8, 2)] := by decide +kernel
theorem r1_16_18 : oDec method_2_code [(16, .istore_n 3, 1), (17, .iload_n 1, 1), (18, .bipush 16, 2)] := by decide +kernel
theorem r1_26_26 : oDec method_2_code [(26, .istore 4, 2)] := by decide +kernel
theorem r1_28_28 : oDec method_2_code [(28, .iload_n 0, 1)] := by decide +kernel
theorem r1_35_36 : oDec method_2_code [(35, .dup, 1), (36, .iconst 0, 1)] := by decide +kernel
theorem r1_43_44 : oDec method_2_code [(43, .iload_n 0, 1), (44, .iconst 1, 1)] := by decide +kernel
theorem r1_51_52 : oDec method_2_code [(51, .dup, 1), (52, .iconst 1, 1)] := by decide +kernel
theorem r1_55_57 : oDec method_2_code [(55, .dup, 1), (56, .iconst 0, 1), (57, .iload_n 2, 1)] := by decide +kernel
theorem r1_63_64 : oDec method_2_code [(63, .iload_n 0, 1), (64, .iconst 2, 1)] := by decide +kernel
theorem r1_71_72 : oDec method_2_code [(71, .dup, 1), (72, .iconst 2, 1)] := by decide +kernel
theorem r1_75_77 : oDec method_2_code [(75, .dup, 1), (76, .iconst 0, 1), (77, .iload_n 2, 1)] := by decide +kernel
theorem r1_79_81 : oDec method_2_code [(79, .dup, 1), (80, .iconst 1, 1), (81, .iload_n 3, 1)] := by decide +kernel
theorem r1_90_91 : oDec method_2_code [(90, .dup, 1), (91, .iconst 3, 1)] := by decide +kernel
theorem r1_94_96 : oDec method_2_code [(94, .dup, 1), (95, .iconst 0, 1), (96, .iload_n 2, 1)] := by decide +kernel
theorem r1_98_100 : oDec method_2_code [(98, .dup, 1), (99, .iconst 1, 1), (100, .iload_n 3, 1)] := by decide +kernel
theorem r1_102_104 : oDec method_2_code [(102, .dup, 1), (103, .iconst 2, 1), (104, .iload 4, 2)] := by decide +kernel
theorem pn_1 : plainName "com/example/patient_tape/patienttape/JsonObjectValuesPinLaw" = true := by first | (simp [plainName, overriddenIn]; done) | decide +kernel
theorem pd_1 : parseMethodDescriptor "([C)V" = some ⟨[(.array .char)], none⟩ := by decide +kernel
theorem ef_1 (m : MethodId) (x0 x1 : Int32) : entryFrame m #[(.int x0), (.int x1)] 5 = mkF m 0 (lA6_ x0 x1) [] := by first | (simp [entryFrame, mkF, argsToLocals, Value.category]; done) | rfl
def Q1 (Z : State) (p0 p1 cs : Int32) (h0 : Heap) (n0 : Nat) (v : Option Value) (h : Heap) (L : List Loc) : Prop := ∃ x : Addr, ∃ vs : List Value, v = some (.ref x) ∧ Fr n0 L ∧ Keep h0 h [] ∧ own_Str Z h x vs ∧ h0.size ≤ x
set_option maxRecDepth 65536 in
set_option maxHeartbeats 40000000 in
theorem rm1 (l : Launch) (Z : State) (a0 : Array Value) (hw : oW_ a0 Z) (ws : List Jvm.Cond) (p0 p1 cs : Int32) (h0 : Heap) (n0 : Nat) (Z0 : n0 ≤ h0.size) (hn3 : p0 = (0 : Int32) ∨ p0 = (1 : Int32) ∨ p0 = (2 : Int32) ∨ p0 = (3 : Int32)) (OZ : Old Z n0 h0) (S_COMPACT_STRINGS : Sta Z Z.heap c2_ c13_ "Z" (.int cs)) (hcs : ¬ (cs = (0 : Int32))) (hCH : Jvm.Lit.constHeld Z c2_ 7) (hcw : Jvm.Lit.compactW.before a0 Z = true) :
    MetFree l y18_ (head1 (Jvm.Cond.code y18_ method_2_code 5 (some (.object c2_)) :: ws) (rM_ 4 4 10 66)) (fun a U => a = #[(.int p0), (.int p1)] ∧ (Z.Warmed39 U.vm ∧ own_I Z U.vm h0) ∧ U.heap = h0) (fun _ _ _ _ _ => True) (fun _ U o U' => ∃ v L, o = .returned v ∧ (Q1 Z p0 p1 cs h0 n0 v U'.heap L ∧ own_I Z U'.vm U'.heap) ∧ ReturnedEndW U o U' L (rM_ 4 4 10 66).cells (rM_ 4 4 10 66).slots) := by
  refine MetFree.of_bodySF (plainFor_of_name pn_1) hisR ?_
  intro p e s m args below meth c s₁ Bd hml0 hP hK
  obtain ⟨rfl, ⟨hZ, hI⟩, hh⟩ := hP
  have hx := Bd.exec
  have hby := Bd.bytes
  have hml : c.maxLocals = 5 := hml0
  have hown : s.vm.findClass c10_ = some m.cls := findClass_of_methodNamed Bd.named
  have X0 : Stand p l e (rM_ 4 4 10 66) s m #[(.int p0), (.int p1)] below meth c s₁ [] 0 0 := Stand.of_body Bd
  have e0 : s₁.heap = h0 := by rw [← hh, Bd.state]; rfl
  have N0 := Fr.nil n0
  have K0 : Keep h0 h0 [] := Keep.refl h0 _
  replace X0 : Stand p l e (rM_ 4 4 10 66) (s.setVm s.vm) m #[(.int p0), (.int p1)] below meth c s₁ [] 0 0 := X0
  replace hZ : Z.Warmed39 (s.setVm s.vm).vm := hZ
  replace hown : (s.setVm s.vm).vm.findClass c10_ = some m.cls := hown
  have hSi : s.Since s.vm 0 := (State.WarmedH.refl s).since 0
  have hk : 0 ≤ h0.size := Nat.zero_le _
  replace hI : own_I Z (s.setVm s.vm).vm h0 := hI
  have H : oH_ p _ m c Z _ _ _ := ⟨hx, hZ, hown, hml, hby⟩
  change own_Go p e below (own_PostI s Z _ _ _) _
  refine own_by (fun t k => castTop (ef_1 m p0 p1) k) ?_
  refine oG X0 H r1_0_0 1 (lA6_ p0 p1) [(.int p1)] ?_
  refine oB_ (tF_ s₁ (mkF m 4 (lA6_ p0 p1) [(.int (255 : Int32)), (.int p1)])) (fun t k => ?_) ?_
  · refine XS.sipush X0.here hx rfl (hb hby d1_1) ?_
    exact k
  refine oB_ (tF_ s₁ (mkF m 5 (lA6_ p0 p1) [(.int (p1 &&& (255 : Int32)))])) (fun t k => ?_) ?_
  · refine XS.iand X0.here hx rfl (hb hby d1_4) rfl ?_
    exact k
  refine oB_ (tF_ s₁ (mkF m 6 (lA6_ p0 p1) [(.int ((p1 &&& (255 : Int32)).toUInt32.toUInt16.toUInt32.toInt32))])) (fun t k => ?_) ?_
  · refine XS.i2c X0.here hx rfl (hb hby d1_5) rfl ?_
    exact k
  refine oG X0 H r1_6_8 10 (lA7_ p0 p1 ((p1 &&& (255 : Int32)).toUInt32.toUInt16.toUInt32.toInt32)) [(.int (8 : Int32)), (.int p1)] ?_
  refine oB_ (tF_ s₁ (mkF m 11 (lA7_ p0 p1 ((p1 &&& (255 : Int32)).toUInt32.toUInt16.toUInt32.toInt32)) [(.int ((p1.toUInt32 >>> ((8 : Int32) &&& 31).toUInt32).toInt32))])) (fun t k => ?_) ?_
  · refine XS.iushr X0.here hx rfl (hb hby d1_10) rfl ?_
    exact k
  refine oB_ (tF_ s₁ (mkF m 14 (lA7_ p0 p1 ((p1 &&& (255 : Int32)).toUInt32.toUInt16.toUInt32.toInt32)) [(.int (255 : Int32)), (.int ((p1.toUInt32 >>> ((8 : Int32) &&& 31).toUInt32).toInt32))])) (fun t k => ?_) ?_
  · refine XS.sipush X0.here hx rfl (hb hby d1_11) ?_
    exact k
  refine oB_ (tF_ s₁ (mkF m 15 (lA7_ p0 p1 ((p1 &&& (255 : Int32)).toUInt32.toUInt16.toUInt32.toInt32)) [(.int (((p1.toUInt32 >>> ((8 : Int32) &&& 31).toUInt32).toInt32) &&& (255 : Int32)))])) (fun t k => ?_) ?_
  · refine XS.iand X0.here hx rfl (hb hby d1_14) rfl ?_
    exact k
  refine oB_ (tF_ s₁ (mkF m 16 (lA7_ p0 p1 ((p1 &&& (255 : Int32)).toUInt32.toUInt16.toUInt32.toInt32)) [(.int ((((p1.toUInt32 >>> ((8 : Int32) &&& 31).toUInt32).toInt32) &&& (255 : Int32)).toUInt32.toUInt16.toUInt32.toInt32))])) (fun t k => ?_) ?_
  · refine XS.i2c X0.here hx rfl (hb hby d1_15) rfl ?_
    exact k
  refine oG X0 H r1_16_18 20 (lA8_ p0 p1 ((p1 &&& (255 : Int32)).toUInt32.toUInt16.toUInt32.toInt32) ((((p1.toUInt32 >>> ((8 : Int32) &&& 31).toUInt32).toInt32) &&& (255 : Int32)).toUInt32.toUInt16.toUInt32.toInt32)) [(.int (16 : Int32)), (.int p1)] ?_
  refine oB_ (tF_ s₁ (mkF m 21 (lA8_ p0 p1 ((p1 &&& (255 : Int32)).toUInt32.toUInt16.toUInt32.toInt32) ((((p1.toUInt32 >>> ((8 : Int32) &&& 31).toUInt32).toInt32) &&& (255 : Int32)).toUInt32.toUInt16.toUInt32.toInt32)) [(.int ((p1.toUInt32 >>> ((16 : Int32) &&& 31).toUInt32).toInt32))])) (fun t k => ?_) ?_
  · refine XS.iushr X0.here hx rfl (hb hby d1_20) rfl ?_
    exact k
  refine oB_ (tF_ s₁ (mkF m 24 (lA8_ p0 p1 ((p1 &&& (255 : Int32)).toUInt32.toUInt16.toUInt32.toInt32) ((((p1.toUInt32 >>> ((8 : Int32) &&& 31).toUInt32).toInt32) &&& (255 : Int32)).toUInt32.toUInt16.toUInt32.toInt32)) [(.int (255 : Int32)), (.int ((p1.toUInt32 >>> ((16 : Int32) &&& 31).toUInt32).toInt32))])) (fun t k => ?_) ?_
  · refine XS.sipush X0.here hx rfl (hb hby d1_21) ?_
    exact k
  refine oB_ (tF_ s₁ (mkF m 25 (lA8_ p0 p1 ((p1 &&& (255 : Int32)).toUInt32.toUInt16.toUInt32.toInt32) ((((p1.toUInt32 >>> ((8 : Int32) &&& 31).toUInt32).toInt32) &&& (255 : Int32)).toUInt32.toUInt16.toUInt32.toInt32)) [(.int (((p1.toUInt32 >>> ((16 : Int32) &&& 31).toUInt32).toInt32) &&& (255 : Int32)))])) (fun t k => ?_) ?_
  · refine XS.iand X0.here hx rfl (hb hby d1_24) rfl ?_
    exact k
  refine oB_ (tF_ s₁ (mkF m 26 (lA8_ p0 p1 ((p1 &&& (255 : Int32)).toUInt32.toUInt16.toUInt32.toInt32) ((((p1.toUInt32 >>> ((8 : Int32) &&& 31).toUInt32).toInt32) &&& (255 : Int32)).toUInt32.toUInt16.toUInt32.toInt32)) [(.int ((((p1.toUInt32 >>> ((16 : Int32) &&& 31).toUInt32).toInt32) &&& (255 : Int32)).toUInt32.toUInt16.toUInt32.toInt32))])) (fun t k => ?_) ?_
  · refine XS.i2c X0.here hx rfl (hb hby d1_25) rfl ?_
    exact k
  refine oG X0 H r1_26_26 28 (lA9_ p0 p1 ((p1 &&& (255 : Int32)).toUInt32.toUInt16.toUInt32.toInt32) ((((p1.toUInt32 >>> ((8 : Int32) &&& 31).toUInt32).toInt32) &&& (255 : Int32)).toUInt32.toUInt16.toUInt32.toInt32) ((((p1.toUInt32 >>> ((16 : Int32) &&& 31).toUInt32).toInt32) &&& (255 : Int32)).toUInt32.toUInt16.toUInt32.toInt32)) [] ?_
  rcases hn3 with hk3 | hk3 | hk3 | hk3
  · subst hk3
    refine oIN X0 H r1_28_28 d1_29 (lA9_ (0 : Int32) p1 ((p1 &&& (255 : Int32)).toUInt32.toUInt16.toUInt32.toInt32) ((((p1.toUInt32 >>> ((8 : Int32) &&& 31).toUInt32).toInt32) &&& (255 : Int32)).toUInt32.toUInt16.toUInt32.toInt32) ((((p1.toUInt32 >>> ((16 : Int32) &&& 31).toUInt32).toInt32) &&& (255 : Int32)).toUInt32.toUInt16.toUInt32.toInt32)) [] rfl ((if0 _ _).trans (teq (by decide : (0 : Int32) = (0 : Int32))).2) ?_
    refine oNw X0 H (hV hw 4) (hV hw 5) (hV hw 6) e0 d1_32 fun T1 h1 b1 X1 e1 E1 u1 E_b1 D1 => ?_
    have g_b1 := Nat.le_trans Z0 u1
    have sz_b1 := Nat.le_trans K0.1 u1
    replace hk := Nat.le_trans hk E1.1
    replace OZ := OZ.ext E1
    replace K0 := K0.ext E1
    replace Z0 := Nat.le_trans Z0 E1.1
    have F_value_b1 : Fld Z h1 b1 c2_ "value" "[B" .null := D1 (Or.inr (hV hw 20)) (ty := (.array .byte)) dE_
    have F_coder_b1 : Fld Z h1 b1 c2_ "coder" "B" oZ := D1 (Or.inr (hV hw 21)) (ty := .byte) dE_
    refine oG X1 H r1_35_36 37 (lA9_ (0 : Int32) p1 ((p1 &&& (255 : Int32)).toUInt32.toUInt16.toUInt32.toInt32) ((((p1.toUInt32 >>> ((8 : Int32) &&& 31).toUInt32).toInt32) &&& (255 : Int32)).toUInt32.toUInt16.toUInt32.toInt32) ((((p1.toUInt32 >>> ((16 : Int32) &&& 31).toUInt32).toInt32) &&& (255 : Int32)).toUInt32.toUInt16.toUInt32.toInt32)) [oZ, (.ref b1), (.ref b1)] ?_
    obtain ⟨T2, h2, k2, X2, e2, E2, A2, st2⟩ := newP X1 hx hZ (hV hw 7) e1 (g := (mkF m 37 (lA9_ (0 : Int32) p1 ((p1 &&& (255 : Int32)).toUInt32.toUInt16.toUInt32.toInt32) ((((p1.toUInt32 >>> ((8 : Int32) &&& 31).toUInt32).toInt32) &&& (255 : Int32)).toUInt32.toUInt16.toUInt32.toInt32) ((((p1.toUInt32 >>> ((16 : Int32) &&& 31).toUInt32).toInt32) &&& (255 : Int32)).toUInt32.toUInt16.toUInt32.toInt32)) [oZ, (.ref b1), (.ref b1)])) rfl (hb hby d1_37) rfl dE_ (cap := 0) dE_ dE_ dE_ dE_
    obtain ⟨b2, g2⟩ : ∃ z, z = h1.size := ⟨_, rfl⟩
    rw [← g2] at A2 st2
    replace hk := Nat.le_trans hk E2.1
    replace E_b1 := E_b1.ext E2
    replace F_value_b1 := F_value_b1.ext E2
    replace F_coder_b1 := F_coder_b1.ext E2
    replace OZ := OZ.ext E2
    replace K0 := K0.ext E2
    replace Z0 := Nat.le_trans Z0 E2.1
    have V_b2 : Arv Z h2 b2 k2 .char (0 : Int32) [] oZ := Arv.new A2 dE_
    refine own_by st2 ?_
    show own_Go p e below _ (T2.setTop (mkF m 39 (lA9_ (0 : Int32) p1 ((p1 &&& (255 : Int32)).toUInt32.toUInt16.toUInt32.toInt32) ((((p1.toUInt32 >>> ((8 : Int32) &&& 31).toUInt32).toInt32) &&& (255 : Int32)).toUInt32.toUInt16.toUInt32.toInt32) ((((p1.toUInt32 >>> ((16 : Int32) &&& 31).toUInt32).toInt32) &&& (255 : Int32)).toUInt32.toUInt16.toUInt32.toInt32)) [(.ref b2), (.ref b1), (.ref b1)]))
    refine own_ccI hSi (by rw [show T2.heap = h2 from e2]; exact hk) hZ hown (own_callII X2 hx hZ (hI.keep K0) (y := y4_) rfl hown (hV hw 8) (hV hw 9) (hV hw 6) (hV hw 10) dE_ (rm2_z l Z a0 hw [] b1 b2 k2 h2 n0 Z0 E_b1 F_value_b1 F_coder_b1 V_b2 g_b1 OZ hCH hcw) e2 1 rfl hml b1 [(.ref b2)] [(.ref b1)] rfl (lenOf pd_1 rfl) rfl (hb hby d1_39)) fun T4 L4 v4 X4 hSi hZ hown hQ4 hI => ?_
    obtain ⟨b4_0, k4_1, rfl, N4, K4, E_b1', F_value_b1', F_coder_b1', V_b4_0'⟩ := hQ4
    replace N0 := Fr.app N0 N4
    replace K0 := K0.trans K4 (allS (Or.inr sz_b1) all0)
    replace hk : T4.heap.size ≤ T4.heap.size := Nat.le_refl _
    replace E_b1 := E_b1'
    have F_value_b1 := F_value_b1'
    have F_coder_b1 := F_coder_b1'
    have V_b4_0 := V_b4_0'
    show own_Go p e below _ (T4.setTop (mkF m 42 (lA9_ (0 : Int32) p1 ((p1 &&& (255 : Int32)).toUInt32.toUInt16.toUInt32.toInt32) ((((p1.toUInt32 >>> ((8 : Int32) &&& 31).toUInt32).toInt32) &&& (255 : Int32)).toUInt32.toUInt16.toUInt32.toInt32) ((((p1.toUInt32 >>> ((16 : Int32) &&& 31).toUInt32).toInt32) &&& (255 : Int32)).toUInt32.toUInt16.toUInt32.toInt32)) [(.ref b1)]))
    exact own_retRI X4 Bd.notSynchronized hx Bd.returns rfl rfl rfl (hb hby d1_42) hSi hk ⟨b1, [], rfl, N0, K0, ⟨b4_0, k4_1, (0 : Int32), E_b1, F_coder_b1, F_value_b1, V_b4_0, (Or.inl ⟨rfl, rfl⟩)⟩, sz_b1⟩ hI dE_ dE_
  · subst hk3
    refine oIY X0 H r1_28_28 d1_29 43 (lA9_ (1 : Int32) p1 ((p1 &&& (255 : Int32)).toUInt32.toUInt16.toUInt32.toInt32) ((((p1.toUInt32 >>> ((8 : Int32) &&& 31).toUInt32).toInt32) &&& (255 : Int32)).toUInt32.toUInt16.toUInt32.toInt32) ((((p1.toUInt32 >>> ((16 : Int32) &&& 31).toUInt32).toInt32) &&& (255 : Int32)).toUInt32.toUInt16.toUInt32.toInt32)) [] rfl ((if0 _ _).trans (feq (by decide : ¬ ((1 : Int32) = (0 : Int32)))).2) ?_
    refine oCN X0 H r1_43_44 d1_45 (lA9_ (1 : Int32) p1 ((p1 &&& (255 : Int32)).toUInt32.toUInt16.toUInt32.toInt32) ((((p1.toUInt32 >>> ((8 : Int32) &&& 31).toUInt32).toInt32) &&& (255 : Int32)).toUInt32.toUInt16.toUInt32.toInt32) ((((p1.toUInt32 >>> ((16 : Int32) &&& 31).toUInt32).toInt32) &&& (255 : Int32)).toUInt32.toUInt16.toUInt32.toInt32)) [] rfl (teq (by decide : (1 : Int32) = (1 : Int32))).2 ?_
    refine oNw X0 H (hV hw 4) (hV hw 5) (hV hw 6) e0 d1_48 fun T5 h5 b5 X5 e5 E5 u5 E_b5 D5 => ?_
    have g_b5 := Nat.le_trans Z0 u5
    have sz_b5 := Nat.le_trans K0.1 u5
    replace hk := Nat.le_trans hk E5.1
    replace OZ := OZ.ext E5
    replace K0 := K0.ext E5
    replace Z0 := Nat.le_trans Z0 E5.1
    have F_value_b5 : Fld Z h5 b5 c2_ "value" "[B" .null := D5 (Or.inr (hV hw 20)) (ty := (.array .byte)) dE_
    have F_coder_b5 : Fld Z h5 b5 c2_ "coder" "B" oZ := D5 (Or.inr (hV hw 21)) (ty := .byte) dE_
    refine oG X5 H r1_51_52 53 (lA9_ (1 : Int32) p1 ((p1 &&& (255 : Int32)).toUInt32.toUInt16.toUInt32.toInt32) ((((p1.toUInt32 >>> ((8 : Int32) &&& 31).toUInt32).toInt32) &&& (255 : Int32)).toUInt32.toUInt16.toUInt32.toInt32) ((((p1.toUInt32 >>> ((16 : Int32) &&& 31).toUInt32).toInt32) &&& (255 : Int32)).toUInt32.toUInt16.toUInt32.toInt32)) [(.int (1 : Int32)), (.ref b5), (.ref b5)] ?_
    obtain ⟨T6, h6, k6, X6, e6, E6, A6, st6⟩ := newP X5 hx hZ (hV hw 7) e5 (g := (mkF m 53 (lA9_ (1 : Int32) p1 ((p1 &&& (255 : Int32)).toUInt32.toUInt16.toUInt32.toInt32) ((((p1.toUInt32 >>> ((8 : Int32) &&& 31).toUInt32).toInt32) &&& (255 : Int32)).toUInt32.toUInt16.toUInt32.toInt32) ((((p1.toUInt32 >>> ((16 : Int32) &&& 31).toUInt32).toInt32) &&& (255 : Int32)).toUInt32.toUInt16.toUInt32.toInt32)) [(.int (1 : Int32)), (.ref b5), (.ref b5)])) rfl (hb hby d1_53) rfl dE_ (cap := 1) dE_ dE_ dE_ dE_
    obtain ⟨b6, g6⟩ : ∃ z, z = h5.size := ⟨_, rfl⟩
    rw [← g6] at A6 st6
    have g_b6 : n0 ≤ b6 := Nat.le_trans Z0 (Nat.le_of_eq g6.symm)
    have sz_b6 : h0.size ≤ b6 := Nat.le_trans K0.1 (Nat.le_of_eq g6.symm)
    have ne_b5_b6 : b5 ≠ b6 := Nat.ne_of_lt (Nat.lt_of_lt_of_le E_b5.lt (Nat.le_of_eq g6.symm))
    replace hk := Nat.le_trans hk E6.1
    replace E_b5 := E_b5.ext E6
    replace F_value_b5 := F_value_b5.ext E6
    replace F_coder_b5 := F_coder_b5.ext E6
    replace OZ := OZ.ext E6
    replace K0 := K0.ext E6
    replace Z0 := Nat.le_trans Z0 E6.1
    have V_b6 : Arv Z h6 b6 k6 .char (1 : Int32) [] oZ := Arv.new A6 dE_
    refine own_by st6 ?_
    refine oG X6 H r1_55_57 58 (lA9_ (1 : Int32) p1 ((p1 &&& (255 : Int32)).toUInt32.toUInt16.toUInt32.toInt32) ((((p1.toUInt32 >>> ((8 : Int32) &&& 31).toUInt32).toInt32) &&& (255 : Int32)).toUInt32.toUInt16.toUInt32.toInt32) ((((p1.toUInt32 >>> ((16 : Int32) &&& 31).toUInt32).toInt32) &&& (255 : Int32)).toUInt32.toUInt16.toUInt32.toInt32)) [(.int ((p1 &&& (255 : Int32)).toUInt32.toUInt16.toUInt32.toInt32)), oZ, (.ref b6), (.ref b6), (.ref b5), (.ref b5)] ?_
    replace V_b6 : Arv Z h6 b6 k6 .char (1 : Int32) [oZ] oZ := V_b6.pad (pad_rep [] oZ 1)
    obtain ⟨cl7, Ar7, q7, S7, N7, H7, G7⟩ := V_b6
    have hin7 : ¬ ((0 : Int32) < 0 ∨ cl7.slots.size ≤ ((0 : Int32)).toNatClampNeg) := inb_of S7 ⟨by decide, by decide⟩
    refine own_c2 (stC X6 hx hZ e6 Ar7 (j := (0 : Int32)) hin7 rfl rfl (hb hby d1_58)) fun T7 h7 X7 e7 W7 => ?_
    replace V_b6 : Arv Z h7 b6 k6 .char (1 : Int32) [(.int (nar .char ((p1 &&& (255 : Int32)).toUInt32.toUInt16.toUInt32.toInt32)))] oZ := Arv.set Ar7 q7 S7 N7 H7 G7 (fits_nar_char _) W7 0 rfl nB_
    replace hk := Nat.le_trans hk (Keep.of_wr W7).1
    replace E_b5 := E_b5.wr W7
    replace F_value_b5 := F_value_b5.other W7 (Or.inl ne_b5_b6)
    replace F_coder_b5 := F_coder_b5.other W7 (Or.inl ne_b5_b6)
    replace OZ := OZ.wr W7 g_b6
    replace K0 := K0.wr W7 (Or.inr sz_b6)
    replace Z0 := Nat.le_trans Z0 (Keep.of_wr W7).1
    replace N0 := Fr.snoc X7 N0 g_b6
    show own_Go p e below _ (T7.setTop (mkF m 59 (lA9_ (1 : Int32) p1 ((p1 &&& (255 : Int32)).toUInt32.toUInt16.toUInt32.toInt32) ((((p1.toUInt32 >>> ((8 : Int32) &&& 31).toUInt32).toInt32) &&& (255 : Int32)).toUInt32.toUInt16.toUInt32.toInt32) ((((p1.toUInt32 >>> ((16 : Int32) &&& 31).toUInt32).toInt32) &&& (255 : Int32)).toUInt32.toUInt16.toUInt32.toInt32)) [(.ref b6), (.ref b5), (.ref b5)]))
    refine ocI X7 H (wb4_ hw) (rm2_5 hw Z0 g_b5 E_b5 F_value_b5 F_coder_b5 V_b6 S_COMPACT_STRINGS OZ hcs (own_c255 p1)) e7 1 b5 [(.ref b6)] [(.ref b5)] pd_1 d1_59 fun T9 _ _ X9 hQ9 => ?_
    obtain ⟨b9_0, k9_1, rfl, N9, K9, E_b5', F_value_b5', F_coder_b5', V_b9_0', _⟩ := hQ9
    replace N0 := Fr.app N0 N9
    replace hk := Nat.le_trans hk K9.1
    replace K0 := K0.trans K9 (allS (Or.inr sz_b5) all0)
    replace E_b5 := E_b5'
    have F_value_b5 := F_value_b5'
    have F_coder_b5 := F_coder_b5'
    have V_b9_0 := V_b9_0'
    exact own_retRI X9 Bd.notSynchronized hx Bd.returns rfl rfl rfl (hb hby d1_62) hSi hk ⟨b5, [(.int (nar .byte ((nar .char ((p1 &&& (255 : Int32)).toUInt32.toUInt16.toUInt32.toInt32)).toInt8.toInt32)))], rfl, N0, K0, ⟨b9_0, k9_1, (1 : Int32), E_b5, F_coder_b5, F_value_b5, V_b9_0, (Or.inr (Or.inl ⟨_, rfl, rfl⟩))⟩, sz_b5⟩ (hI.keep K0) dE_ dE_
  · subst hk3
    refine oIY X0 H r1_28_28 d1_29 43 (lA9_ (2 : Int32) p1 ((p1 &&& (255 : Int32)).toUInt32.toUInt16.toUInt32.toInt32) ((((p1.toUInt32 >>> ((8 : Int32) &&& 31).toUInt32).toInt32) &&& (255 : Int32)).toUInt32.toUInt16.toUInt32.toInt32) ((((p1.toUInt32 >>> ((16 : Int32) &&& 31).toUInt32).toInt32) &&& (255 : Int32)).toUInt32.toUInt16.toUInt32.toInt32)) [] rfl ((if0 _ _).trans (feq (by decide : ¬ ((2 : Int32) = (0 : Int32)))).2) ?_
    refine oCY X0 H r1_43_44 d1_45 63 (lA9_ (2 : Int32) p1 ((p1 &&& (255 : Int32)).toUInt32.toUInt16.toUInt32.toInt32) ((((p1.toUInt32 >>> ((8 : Int32) &&& 31).toUInt32).toInt32) &&& (255 : Int32)).toUInt32.toUInt16.toUInt32.toInt32) ((((p1.toUInt32 >>> ((16 : Int32) &&& 31).toUInt32).toInt32) &&& (255 : Int32)).toUInt32.toUInt16.toUInt32.toInt32)) [] rfl (feq (by decide : ¬ ((2 : Int32) = (1 : Int32)))).2 ?_
    refine oCN X0 H r1_63_64 d1_65 (lA9_ (2 : Int32) p1 ((p1 &&& (255 : Int32)).toUInt32.toUInt16.toUInt32.toInt32) ((((p1.toUInt32 >>> ((8 : Int32) &&& 31).toUInt32).toInt32) &&& (255 : Int32)).toUInt32.toUInt16.toUInt32.toInt32) ((((p1.toUInt32 >>> ((16 : Int32) &&& 31).toUInt32).toInt32) &&& (255 : Int32)).toUInt32.toUInt16.toUInt32.toInt32)) [] rfl (teq (by decide : (2 : Int32) = (2 : Int32))).2 ?_
    refine oNw X0 H (hV hw 4) (hV hw 5) (hV hw 6) e0 d1_68 fun T10 h10 b10 X10 e10 E10 u10 E_b10 D10 => ?_
    have g_b10 := Nat.le_trans Z0 u10
    have sz_b10 := Nat.le_trans K0.1 u10
    replace hk := Nat.le_trans hk E10.1
    replace OZ := OZ.ext E10
    replace K0 := K0.ext E10
    replace Z0 := Nat.le_trans Z0 E10.1
    have F_value_b10 : Fld Z h10 b10 c2_ "value" "[B" .null := D10 (Or.inr (hV hw 20)) (ty := (.array .byte)) dE_
    have F_coder_b10 : Fld Z h10 b10 c2_ "coder" "B" oZ := D10 (Or.inr (hV hw 21)) (ty := .byte) dE_
    refine oG X10 H r1_71_72 73 (lA9_ (2 : Int32) p1 ((p1 &&& (255 : Int32)).toUInt32.toUInt16.toUInt32.toInt32) ((((p1.toUInt32 >>> ((8 : Int32) &&& 31).toUInt32).toInt32) &&& (255 : Int32)).toUInt32.toUInt16.toUInt32.toInt32) ((((p1.toUInt32 >>> ((16 : Int32) &&& 31).toUInt32).toInt32) &&& (255 : Int32)).toUInt32.toUInt16.toUInt32.toInt32)) [(.int (2 : Int32)), (.ref b10), (.ref b10)] ?_
    obtain ⟨T11, h11, k11, X11, e11, E11, A11, st11⟩ := newP X10 hx hZ (hV hw 7) e10 (g := (mkF m 73 (lA9_ (2 : Int32) p1 ((p1 &&& (255 : Int32)).toUInt32.toUInt16.toUInt32.toInt32) ((((p1.toUInt32 >>> ((8 : Int32) &&& 31).toUInt32).toInt32) &&& (255 : Int32)).toUInt32.toUInt16.toUInt32.toInt32) ((((p1.toUInt32 >>> ((16 : Int32) &&& 31).toUInt32).toInt32) &&& (255 : Int32)).toUInt32.toUInt16.toUInt32.toInt32)) [(.int (2 : Int32)), (.ref b10), (.ref b10)])) rfl (hb hby d1_73) rfl dE_ (cap := 2) dE_ dE_ dE_ dE_
    obtain ⟨b11, g11⟩ : ∃ z, z = h10.size := ⟨_, rfl⟩
    rw [← g11] at A11 st11
    have g_b11 : n0 ≤ b11 := Nat.le_trans Z0 (Nat.le_of_eq g11.symm)
    have sz_b11 : h0.size ≤ b11 := Nat.le_trans K0.1 (Nat.le_of_eq g11.symm)
    have ne_b10_b11 : b10 ≠ b11 := Nat.ne_of_lt (Nat.lt_of_lt_of_le E_b10.lt (Nat.le_of_eq g11.symm))
    replace hk := Nat.le_trans hk E11.1
    replace E_b10 := E_b10.ext E11
    replace F_value_b10 := F_value_b10.ext E11
    replace F_coder_b10 := F_coder_b10.ext E11
    replace OZ := OZ.ext E11
    replace K0 := K0.ext E11
    replace Z0 := Nat.le_trans Z0 E11.1
    have V_b11 : Arv Z h11 b11 k11 .char (2 : Int32) [] oZ := Arv.new A11 dE_
    refine own_by st11 ?_
    refine oG X11 H r1_75_77 78 (lA9_ (2 : Int32) p1 ((p1 &&& (255 : Int32)).toUInt32.toUInt16.toUInt32.toInt32) ((((p1.toUInt32 >>> ((8 : Int32) &&& 31).toUInt32).toInt32) &&& (255 : Int32)).toUInt32.toUInt16.toUInt32.toInt32) ((((p1.toUInt32 >>> ((16 : Int32) &&& 31).toUInt32).toInt32) &&& (255 : Int32)).toUInt32.toUInt16.toUInt32.toInt32)) [(.int ((p1 &&& (255 : Int32)).toUInt32.toUInt16.toUInt32.toInt32)), oZ, (.ref b11), (.ref b11), (.ref b10), (.ref b10)] ?_
    replace V_b11 : Arv Z h11 b11 k11 .char (2 : Int32) [oZ] oZ := V_b11.pad (pad_rep [] oZ 1)
    obtain ⟨cl12, Ar12, q12, S12, N12, H12, G12⟩ := V_b11
    have hin12 : ¬ ((0 : Int32) < 0 ∨ cl12.slots.size ≤ ((0 : Int32)).toNatClampNeg) := inb_of S12 ⟨by decide, by decide⟩
    refine own_c2 (stC X11 hx hZ e11 Ar12 (j := (0 : Int32)) hin12 rfl rfl (hb hby d1_78)) fun T12 h12 X12 e12 W12 => ?_
    replace V_b11 : Arv Z h12 b11 k11 .char (2 : Int32) [(.int (nar .char ((p1 &&& (255 : Int32)).toUInt32.toUInt16.toUInt32.toInt32)))] oZ := Arv.set Ar12 q12 S12 N12 H12 G12 (fits_nar_char _) W12 0 rfl nB_
    replace hk := Nat.le_trans hk (Keep.of_wr W12).1
    replace E_b10 := E_b10.wr W12
    replace F_value_b10 := F_value_b10.other W12 (Or.inl ne_b10_b11)
    replace F_coder_b10 := F_coder_b10.other W12 (Or.inl ne_b10_b11)
    replace OZ := OZ.wr W12 g_b11
    replace K0 := K0.wr W12 (Or.inr sz_b11)
    replace Z0 := Nat.le_trans Z0 (Keep.of_wr W12).1
    replace N0 := Fr.snoc X12 N0 g_b11
    refine oG X12 H r1_79_81 82 (lA9_ (2 : Int32) p1 ((p1 &&& (255 : Int32)).toUInt32.toUInt16.toUInt32.toInt32) ((((p1.toUInt32 >>> ((8 : Int32) &&& 31).toUInt32).toInt32) &&& (255 : Int32)).toUInt32.toUInt16.toUInt32.toInt32) ((((p1.toUInt32 >>> ((16 : Int32) &&& 31).toUInt32).toInt32) &&& (255 : Int32)).toUInt32.toUInt16.toUInt32.toInt32)) [(.int ((((p1.toUInt32 >>> ((8 : Int32) &&& 31).toUInt32).toInt32) &&& (255 : Int32)).toUInt32.toUInt16.toUInt32.toInt32)), (.int (1 : Int32)), (.ref b11), (.ref b11), (.ref b10), (.ref b10)] ?_
    replace V_b11 : Arv Z h12 b11 k11 .char (2 : Int32) [(.int (nar .char ((p1 &&& (255 : Int32)).toUInt32.toUInt16.toUInt32.toInt32))), oZ] oZ := V_b11.pad (pad_rep [(.int (nar .char ((p1 &&& (255 : Int32)).toUInt32.toUInt16.toUInt32.toInt32)))] oZ 1)
    obtain ⟨cl13, Ar13, q13, S13, N13, H13, G13⟩ := V_b11
    have hin13 : ¬ ((1 : Int32) < 0 ∨ cl13.slots.size ≤ ((1 : Int32)).toNatClampNeg) := inb_of S13 ⟨by decide, by decide⟩
    refine own_c2 (stC X12 hx hZ e12 Ar13 (j := (1 : Int32)) hin13 rfl rfl (hb hby d1_82)) fun T13 h13 X13 e13 W13 => ?_
    replace V_b11 : Arv Z h13 b11 k11 .char (2 : Int32) [(.int (nar .char ((p1 &&& (255 : Int32)).toUInt32.toUInt16.toUInt32.toInt32))), (.int (nar .char ((((p1.toUInt32 >>> ((8 : Int32) &&& 31).toUInt32).toInt32) &&& (255 : Int32)).toUInt32.toUInt16.toUInt32.toInt32)))] oZ := Arv.set Ar13 q13 S13 N13 H13 G13 (fits_nar_char _) W13 1 rfl nB_
    replace hk := Nat.le_trans hk (Keep.of_wr W13).1
    replace E_b10 := E_b10.wr W13
    replace F_value_b10 := F_value_b10.other W13 (Or.inl ne_b10_b11)
    replace F_coder_b10 := F_coder_b10.other W13 (Or.inl ne_b10_b11)
    replace OZ := OZ.wr W13 g_b11
    replace K0 := K0.wr W13 (Or.inr sz_b11)
    replace Z0 := Nat.le_trans Z0 (Keep.of_wr W13).1
    replace N0 := Fr.snoc X13 N0 g_b11
    show own_Go p e below _ (T13.setTop (mkF m 83 (lA9_ (2 : Int32) p1 ((p1 &&& (255 : Int32)).toUInt32.toUInt16.toUInt32.toInt32) ((((p1.toUInt32 >>> ((8 : Int32) &&& 31).toUInt32).toInt32) &&& (255 : Int32)).toUInt32.toUInt16.toUInt32.toInt32) ((((p1.toUInt32 >>> ((16 : Int32) &&& 31).toUInt32).toInt32) &&& (255 : Int32)).toUInt32.toUInt16.toUInt32.toInt32)) [(.ref b11), (.ref b10), (.ref b10)]))
    refine ocI X13 H (wb4_ hw) (rm2_10 hw Z0 g_b10 E_b10 F_value_b10 F_coder_b10 V_b11 S_COMPACT_STRINGS OZ hcs (own_c255 p1) (own_c255 ((p1.toUInt32 >>> (8 : Int32).toUInt32).toInt32))) e13 1 b10 [(.ref b11)] [(.ref b10)] pd_1 d1_83 fun T15 _ _ X15 hQ15 => ?_
    obtain ⟨b15_0, k15_1, rfl, N15, K15, E_b10', F_value_b10', F_coder_b10', V_b15_0', _⟩ := hQ15
    replace N0 := Fr.app N0 N15
    replace hk := Nat.le_trans hk K15.1
    replace K0 := K0.trans K15 (allS (Or.inr sz_b10) all0)
    replace E_b10 := E_b10'
    have F_value_b10 := F_value_b10'
    have F_coder_b10 := F_coder_b10'
    have V_b15_0 : Arv Z T15.heap b15_0 k15_1 .byte (2 : Int32) [(.int (nar .byte ((nar .char ((p1 &&& (255 : Int32)).toUInt32.toUInt16.toUInt32.toInt32)).toInt8.toInt32))), (.int (nar .byte ((nar .char ((((p1.toUInt32 >>> (8 : Int32).toUInt32).toInt32) &&& (255 : Int32)).toUInt32.toUInt16.toUInt32.toInt32)).toInt8.toInt32)))] oZ := V_b15_0'
    exact own_retRI X15 Bd.notSynchronized hx Bd.returns rfl rfl rfl (hb hby d1_86) hSi hk ⟨b10, [(.int (nar .byte ((nar .char ((p1 &&& (255 : Int32)).toUInt32.toUInt16.toUInt32.toInt32)).toInt8.toInt32))), (.int (nar .byte ((nar .char ((((p1.toUInt32 >>> (8 : Int32).toUInt32).toInt32) &&& (255 : Int32)).toUInt32.toUInt16.toUInt32.toInt32)).toInt8.toInt32)))], rfl, N0, K0, ⟨b15_0, k15_1, (2 : Int32), E_b10, F_coder_b10, F_value_b10, V_b15_0, (Or.inr (Or.inr (Or.inl ⟨_, _, rfl, rfl⟩)))⟩, sz_b10⟩ (hI.keep K0) dE_ dE_
  · subst hk3
    refine oIY X0 H r1_28_28 d1_29 43 (lA9_ (3 : Int32) p1 ((p1 &&& (255 : Int32)).toUInt32.toUInt16.toUInt32.toInt32) ((((p1.toUInt32 >>> ((8 : Int32) &&& 31).toUInt32).toInt32) &&& (255 : Int32)).toUInt32.toUInt16.toUInt32.toInt32) ((((p1.toUInt32 >>> ((16 : Int32) &&& 31).toUInt32).toInt32) &&& (255 : Int32)).toUInt32.toUInt16.toUInt32.toInt32)) [] rfl ((if0 _ _).trans (feq (by decide : ¬ ((3 : Int32) = (0 : Int32)))).2) ?_
    refine oCY X0 H r1_43_44 d1_45 63 (lA9_ (3 : Int32) p1 ((p1 &&& (255 : Int32)).toUInt32.toUInt16.toUInt32.toInt32) ((((p1.toUInt32 >>> ((8 : Int32) &&& 31).toUInt32).toInt32) &&& (255 : Int32)).toUInt32.toUInt16.toUInt32.toInt32) ((((p1.toUInt32 >>> ((16 : Int32) &&& 31).toUInt32).toInt32) &&& (255 : Int32)).toUInt32.toUInt16.toUInt32.toInt32)) [] rfl (feq (by decide : ¬ ((3 : Int32) = (1 : Int32)))).2 ?_
    refine oCY X0 H r1_63_64 d1_65 87 (lA9_ (3 : Int32) p1 ((p1 &&& (255 : Int32)).toUInt32.toUInt16.toUInt32.toInt32) ((((p1.toUInt32 >>> ((8 : Int32) &&& 31).toUInt32).toInt32) &&& (255 : Int32)).toUInt32.toUInt16.toUInt32.toInt32) ((((p1.toUInt32 >>> ((16 : Int32) &&& 31).toUInt32).toInt32) &&& (255 : Int32)).toUInt32.toUInt16.toUInt32.toInt32)) [] rfl (feq (by decide : ¬ ((3 : Int32) = (2 : Int32)))).2 ?_
    refine oNw X0 H (hV hw 4) (hV hw 5) (hV hw 6) e0 d1_87 fun T16 h16 b16 X16 e16 E16 u16 E_b16 D16 => ?_
    have g_b16 := Nat.le_trans Z0 u16
    have sz_b16 := Nat.le_trans K0.1 u16
    replace hk := Nat.le_trans hk E16.1
    replace OZ := OZ.ext E16
    replace K0 := K0.ext E16
    replace Z0 := Nat.le_trans Z0 E16.1
    have F_value_b16 : Fld Z h16 b16 c2_ "value" "[B" .null := D16 (Or.inr (hV hw 20)) (ty := (.array .byte)) dE_
    have F_coder_b16 : Fld Z h16 b16 c2_ "coder" "B" oZ := D16 (Or.inr (hV hw 21)) (ty := .byte) dE_
    refine oG X16 H r1_90_91 92 (lA9_ (3 : Int32) p1 ((p1 &&& (255 : Int32)).toUInt32.toUInt16.toUInt32.toInt32) ((((p1.toUInt32 >>> ((8 : Int32) &&& 31).toUInt32).toInt32) &&& (255 : Int32)).toUInt32.toUInt16.toUInt32.toInt32) ((((p1.toUInt32 >>> ((16 : Int32) &&& 31).toUInt32).toInt32) &&& (255 : Int32)).toUInt32.toUInt16.toUInt32.toInt32)) [(.int (3 : Int32)), (.ref b16), (.ref b16)] ?_
    obtain ⟨T17, h17, k17, X17, e17, E17, A17, st17⟩ := newP X16 hx hZ (hV hw 7) e16 (g := (mkF m 92 (lA9_ (3 : Int32) p1 ((p1 &&& (255 : Int32)).toUInt32.toUInt16.toUInt32.toInt32) ((((p1.toUInt32 >>> ((8 : Int32) &&& 31).toUInt32).toInt32) &&& (255 : Int32)).toUInt32.toUInt16.toUInt32.toInt32) ((((p1.toUInt32 >>> ((16 : Int32) &&& 31).toUInt32).toInt32) &&& (255 : Int32)).toUInt32.toUInt16.toUInt32.toInt32)) [(.int (3 : Int32)), (.ref b16), (.ref b16)])) rfl (hb hby d1_92) rfl dE_ (cap := 3) dE_ dE_ dE_ dE_
    obtain ⟨b17, g17⟩ : ∃ z, z = h16.size := ⟨_, rfl⟩
    rw [← g17] at A17 st17
    have g_b17 : n0 ≤ b17 := Nat.le_trans Z0 (Nat.le_of_eq g17.symm)
    have sz_b17 : h0.size ≤ b17 := Nat.le_trans K0.1 (Nat.le_of_eq g17.symm)
    have ne_b16_b17 : b16 ≠ b17 := Nat.ne_of_lt (Nat.lt_of_lt_of_le E_b16.lt (Nat.le_of_eq g17.symm))
    replace hk := Nat.le_trans hk E17.1
    replace E_b16 := E_b16.ext E17
    replace F_value_b16 := F_value_b16.ext E17
    replace F_coder_b16 := F_coder_b16.ext E17
    replace OZ := OZ.ext E17
    replace K0 := K0.ext E17
    replace Z0 := Nat.le_trans Z0 E17.1
    have V_b17 : Arv Z h17 b17 k17 .char (3 : Int32) [] oZ := Arv.new A17 dE_
    refine own_by st17 ?_
    refine oG X17 H r1_94_96 97 (lA9_ (3 : Int32) p1 ((p1 &&& (255 : Int32)).toUInt32.toUInt16.toUInt32.toInt32) ((((p1.toUInt32 >>> ((8 : Int32) &&& 31).toUInt32).toInt32) &&& (255 : Int32)).toUInt32.toUInt16.toUInt32.toInt32) ((((p1.toUInt32 >>> ((16 : Int32) &&& 31).toUInt32).toInt32) &&& (255 : Int32)).toUInt32.toUInt16.toUInt32.toInt32)) [(.int ((p1 &&& (255 : Int32)).toUInt32.toUInt16.toUInt32.toInt32)), oZ, (.ref b17), (.ref b17), (.ref b16), (.ref b16)] ?_
    replace V_b17 : Arv Z h17 b17 k17 .char (3 : Int32) [oZ] oZ := V_b17.pad (pad_rep [] oZ 1)
    obtain ⟨cl18, Ar18, q18, S18, N18, H18, G18⟩ := V_b17
    have hin18 : ¬ ((0 : Int32) < 0 ∨ cl18.slots.size ≤ ((0 : Int32)).toNatClampNeg) := inb_of S18 ⟨by decide, by decide⟩
    refine own_c2 (stC X17 hx hZ e17 Ar18 (j := (0 : Int32)) hin18 rfl rfl (hb hby d1_97)) fun T18 h18 X18 e18 W18 => ?_
    replace V_b17 : Arv Z h18 b17 k17 .char (3 : Int32) [(.int (nar .char ((p1 &&& (255 : Int32)).toUInt32.toUInt16.toUInt32.toInt32)))] oZ := Arv.set Ar18 q18 S18 N18 H18 G18 (fits_nar_char _) W18 0 rfl nB_
    replace hk := Nat.le_trans hk (Keep.of_wr W18).1
    replace E_b16 := E_b16.wr W18
    replace F_value_b16 := F_value_b16.other W18 (Or.inl ne_b16_b17)
    replace F_coder_b16 := F_coder_b16.other W18 (Or.inl ne_b16_b17)
    replace OZ := OZ.wr W18 g_b17
    replace K0 := K0.wr W18 (Or.inr sz_b17)
    replace Z0 := Nat.le_trans Z0 (Keep.of_wr W18).1
    replace N0 := Fr.snoc X18 N0 g_b17
    refine oG X18 H r1_98_100 101 (lA9_ (3 : Int32) p1 ((p1 &&& (255 : Int32)).toUInt32.toUInt16.toUInt32.toInt32) ((((p1.toUInt32 >>> ((8 : Int32) &&& 31).toUInt32).toInt32) &&& (255 : Int32)).toUInt32.toUInt16.toUInt32.toInt32) ((((p1.toUInt32 >>> ((16 : Int32) &&& 31).toUInt32).toInt32) &&& (255 : Int32)).toUInt32.toUInt16.toUInt32.toInt32)) [(.int ((((p1.toUInt32 >>> ((8 : Int32) &&& 31).toUInt32).toInt32) &&& (255 : Int32)).toUInt32.toUInt16.toUInt32.toInt32)), (.int (1 : Int32)), (.ref b17), (.ref b17), (.ref b16), (.ref b16)] ?_
    replace V_b17 : Arv Z h18 b17 k17 .char (3 : Int32) [(.int (nar .char ((p1 &&& (255 : Int32)).toUInt32.toUInt16.toUInt32.toInt32))), oZ] oZ := V_b17.pad (pad_rep [(.int (nar .char ((p1 &&& (255 : Int32)).toUInt32.toUInt16.toUInt32.toInt32)))] oZ 1)
    obtain ⟨cl19, Ar19, q19, S19, N19, H19, G19⟩ := V_b17
    have hin19 : ¬ ((1 : Int32) < 0 ∨ cl19.slots.size ≤ ((1 : Int32)).toNatClampNeg) := inb_of S19 ⟨by decide, by decide⟩
    refine own_c2 (stC X18 hx hZ e18 Ar19 (j := (1 : Int32)) hin19 rfl rfl (hb hby d1_101)) fun T19 h19 X19 e19 W19 => ?_
    replace V_b17 : Arv Z h19 b17 k17 .char (3 : Int32) [(.int (nar .char ((p1 &&& (255 : Int32)).toUInt32.toUInt16.toUInt32.toInt32))), (.int (nar .char ((((p1.toUInt32 >>> ((8 : Int32) &&& 31).toUInt32).toInt32) &&& (255 : Int32)).toUInt32.toUInt16.toUInt32.toInt32)))] oZ := Arv.set Ar19 q19 S19 N19 H19 G19 (fits_nar_char _) W19 1 rfl nB_
    replace hk := Nat.le_trans hk (Keep.of_wr W19).1
    replace E_b16 := E_b16.wr W19
    replace F_value_b16 := F_value_b16.other W19 (Or.inl ne_b16_b17)
    replace F_coder_b16 := F_coder_b16.other W19 (Or.inl ne_b16_b17)
    replace OZ := OZ.wr W19 g_b17
    replace K0 := K0.wr W19 (Or.inr sz_b17)
    replace Z0 := Nat.le_trans Z0 (Keep.of_wr W19).1
    replace N0 := Fr.snoc X19 N0 g_b17
    refine oG X19 H r1_102_104 106 (lA9_ (3 : Int32) p1 ((p1 &&& (255 : Int32)).toUInt32.toUInt16.toUInt32.toInt32) ((((p1.toUInt32 >>> ((8 : Int32) &&& 31).toUInt32).toInt32) &&& (255 : Int32)).toUInt32.toUInt16.toUInt32.toInt32) ((((p1.toUInt32 >>> ((16 : Int32) &&& 31).toUInt32).toInt32) &&& (255 : Int32)).toUInt32.toUInt16.toUInt32.toInt32)) [(.int ((((p1.toUInt32 >>> ((16 : Int32) &&& 31).toUInt32).toInt32) &&& (255 : Int32)).toUInt32.toUInt16.toUInt32.toInt32)), (.int (2 : Int32)), (.ref b17), (.ref b17), (.ref b16), (.ref b16)] ?_
    replace V_b17 : Arv Z h19 b17 k17 .char (3 : Int32) [(.int (nar .char ((p1 &&& (255 : Int32)).toUInt32.toUInt16.toUInt32.toInt32))), (.int (nar .char ((((p1.toUInt32 >>> ((8 : Int32) &&& 31).toUInt32).toInt32) &&& (255 : Int32)).toUInt32.toUInt16.toUInt32.toInt32))), oZ] oZ := V_b17.pad (pad_rep [(.int (nar .char ((p1 &&& (255 : Int32)).toUInt32.toUInt16.toUInt32.toInt32))), (.int (nar .char ((((p1.toUInt32 >>> ((8 : Int32) &&& 31).toUInt32).toInt32) &&& (255 : Int32)).toUInt32.toUInt16.toUInt32.toInt32)))] oZ 1)
    obtain ⟨cl20, Ar20, q20, S20, N20, H20, G20⟩ := V_b17
    have hin20 : ¬ ((2 : Int32) < 0 ∨ cl20.slots.size ≤ ((2 : Int32)).toNatClampNeg) := inb_of S20 ⟨by decide, by decide⟩
    refine own_c2 (stC X19 hx hZ e19 Ar20 (j := (2 : Int32)) hin20 rfl rfl (hb hby d1_106)) fun T20 h20 X20 e20 W20 => ?_
    replace V_b17 : Arv Z h20 b17 k17 .char (3 : Int32) [(.int (nar .char ((p1 &&& (255 : Int32)).toUInt32.toUInt16.toUInt32.toInt32))), (.int (nar .char ((((p1.toUInt32 >>> ((8 : Int32) &&& 31).toUInt32).toInt32) &&& (255 : Int32)).toUInt32.toUInt16.toUInt32.toInt32))), (.int (nar .char ((((p1.toUInt32 >>> ((16 : Int32) &&& 31).toUInt32).toInt32) &&& (255 : Int32)).toUInt32.toUInt16.toUInt32.toInt32)))] oZ := Arv.set Ar20 q20 S20 N20 H20 G20 (fits_nar_char _) W20 2 rfl nB_
    replace hk := Nat.le_trans hk (Keep.of_wr W20).1
    replace E_b16 := E_b16.wr W20
    replace F_value_b16 := F_value_b16.other W20 (Or.inl ne_b16_b17)
    replace F_coder_b16 := F_coder_b16.other W20 (Or.inl ne_b16_b17)
    replace OZ := OZ.wr W20 g_b17
    replace K0 := K0.wr W20 (Or.inr sz_b17)
    replace Z0 := Nat.le_trans Z0 (Keep.of_wr W20).1
    replace N0 := Fr.snoc X20 N0 g_b17
    show own_Go p e below _ (T20.setTop (mkF m 107 (lA9_ (3 : Int32) p1 ((p1 &&& (255 : Int32)).toUInt32.toUInt16.toUInt32.toInt32) ((((p1.toUInt32 >>> ((8 : Int32) &&& 31).toUInt32).toInt32) &&& (255 : Int32)).toUInt32.toUInt16.toUInt32.toInt32) ((((p1.toUInt32 >>> ((16 : Int32) &&& 31).toUInt32).toInt32) &&& (255 : Int32)).toUInt32.toUInt16.toUInt32.toInt32)) [(.ref b17), (.ref b16), (.ref b16)]))
    refine ocI X20 H (wb4_ hw) (rm2_15 hw Z0 g_b16 E_b16 F_value_b16 F_coder_b16 V_b17 S_COMPACT_STRINGS OZ hcs (own_c255 p1) (own_c255 ((p1.toUInt32 >>> (8 : Int32).toUInt32).toInt32)) (own_c255 ((p1.toUInt32 >>> (16 : Int32).toUInt32).toInt32))) e20 1 b16 [(.ref b17)] [(.ref b16)] pd_1 d1_107 fun T22 _ _ X22 hQ22 => ?_
    obtain ⟨b22_0, k22_1, rfl, N22, K22, E_b16', F_value_b16', F_coder_b16', V_b22_0', _⟩ := hQ22
    replace N0 := Fr.app N0 N22
    replace hk := Nat.le_trans hk K22.1
    replace K0 := K0.trans K22 (allS (Or.inr sz_b16) all0)
    replace E_b16 := E_b16'
    have F_value_b16 := F_value_b16'
    have F_coder_b16 := F_coder_b16'
    have V_b22_0 : Arv Z T22.heap b22_0 k22_1 .byte (3 : Int32) [(.int (nar .byte ((nar .char ((p1 &&& (255 : Int32)).toUInt32.toUInt16.toUInt32.toInt32)).toInt8.toInt32))), (.int (nar .byte ((nar .char ((((p1.toUInt32 >>> (8 : Int32).toUInt32).toInt32) &&& (255 : Int32)).toUInt32.toUInt16.toUInt32.toInt32)).toInt8.toInt32))), (.int (nar .byte ((nar .char ((((p1.toUInt32 >>> (16 : Int32).toUInt32).toInt32) &&& (255 : Int32)).toUInt32.toUInt16.toUInt32.toInt32)).toInt8.toInt32)))] oZ := V_b22_0'
    exact own_retRI X22 Bd.notSynchronized hx Bd.returns rfl rfl rfl (hb hby d1_110) hSi hk ⟨b16, [(.int (nar .byte ((nar .char ((p1 &&& (255 : Int32)).toUInt32.toUInt16.toUInt32.toInt32)).toInt8.toInt32))), (.int (nar .byte ((nar .char ((((p1.toUInt32 >>> (8 : Int32).toUInt32).toInt32) &&& (255 : Int32)).toUInt32.toUInt16.toUInt32.toInt32)).toInt8.toInt32))), (.int (nar .byte ((nar .char ((((p1.toUInt32 >>> (16 : Int32).toUInt32).toInt32) &&& (255 : Int32)).toUInt32.toUInt16.toUInt32.toInt32)).toInt8.toInt32)))], rfl, N0, K0, ⟨b22_0, k22_1, (3 : Int32), E_b16, F_coder_b16, F_value_b16, V_b22_0, (Or.inr (Or.inr (Or.inr ⟨_, _, _, rfl, rfl⟩)))⟩, sz_b16⟩ (hI.keep K0) dE_ dE_

theorem d5_0 : dC6_ 0 (.iload_n 0, 1) := by decide +kernel
theorem d5_1 : dC6_ 1 (.iconst 1, 1) := by decide +kernel
theorem d5_2 : dC6_ 2 (.iand, 1) := by decide +kernel
theorem d5_3 : dC6_ 3 (.ifCond .eq 13, 3) := by decide +kernel
theorem d5_6 : dC6_ 6 (.iload_n 1, 1) := by decide +kernel
theorem d5_7 : dC6_ 7 (.iconst 3, 1) := by decide +kernel
theorem d5_8 : dC6_ 8 (.iand, 1) := by decide +kernel
theorem d5_9 : dC6_ 9 (.iload_n 1, 1) := by decide +kernel
theorem d5_10 : dC6_ 10 (.iconst 2, 1) := by decide +kernel
theorem d5_11 : dC6_ 11 (.iushr, 1) := by decide +kernel
theorem d5_12 : dC6_ 12 (.invokestatic 12, 3) := by decide +kernel
theorem d5_15 : dC6_ 15 (.areturn, 1) := by decide +kernel
theorem d5_16 : dC6_ 16 (.iload_n 2, 1) := by decide +kernel
theorem d5_17 : dC6_ 17 (.iconst 3, 1) := by decide +kernel
theorem d5_18 : dC6_ 18 (.iand, 1) := by decide +kernel
theorem d5_19 : dC6_ 19 (.iload_n 2, 1) := by decide +kernel
theorem d5_20 : dC6_ 20 (.iconst 2, 1) := by decide +kernel
theorem d5_21 : dC6_ 21 (.iushr, 1) := by decide +kernel
theorem d5_22 : dC6_ 22 (.invokestatic 12, 3) := by decide +kernel
theorem d5_25 : dC6_ 25 (.areturn, 1) := by decide +kernel
theorem r5_0_1 : oDec method_3_code [(0, .iload_n 0, 1), (1, .iconst 1, 1)] := by decide +kernel
theorem r5_16_17 : oDec method_3_code [(16, .iload_n 2, 1), (17, .iconst 3, 1)] := by decide +kernel
theorem r5_19_20 : oDec method_3_code [(19, .iload_n 2, 1), (20, .iconst 2, 1)] := by decide +kernel
theorem r5_6_7 : oDec method_3_code [(6, .iload_n 1, 1), (7, .iconst 3, 1)] := by decide +kernel
theorem r5_9_10 : oDec method_3_code [(9, .iload_n 1, 1), (10, .iconst 2, 1)] := by decide +kernel
theorem pn_5 : plainName "com/example/patient_tape/patienttape/JsonObjectValuesPinLaw" = true := by first | (simp [plainName, overriddenIn]; done) | decide +kernel
theorem pd_0 : parseMethodDescriptor "(II)Ljava/lang/String;" = some ⟨[.int, .int], some (.object "java/lang/String")⟩ := by decide +kernel
theorem ef_5 (m : MethodId) (x0 x1 x2 : Int32) : entryFrame m #[(.int x0), (.int x1), (.int x2)] 3 = mkF m 0 #[iv x0, iv x1, iv x2] [] := by first | (simp [entryFrame, mkF, argsToLocals, Value.category]; done) | rfl
def Q5 (Z : State) (p0 p1 : Int32) (p2 cs : Int32) (h0 : Heap) (n0 : Nat) (v : Option Value) (h : Heap) (L : List Loc) : Prop := ∃ x : Addr, ∃ vs : List Value, v = some (.ref x) ∧ Fr n0 L ∧ Keep h0 h [] ∧ own_Str Z h x vs ∧ h0.size ≤ x
set_option maxRecDepth 65536 in
set_option maxHeartbeats 40000000 in
theorem rm5 (l : Launch) (Z : State) (a0 : Array Value) (hw : oW_ a0 Z) (ws : List Jvm.Cond) (p0 p1 : Int32) (p2 cs : Int32) (h0 : Heap) (n0 : Nat) (Z0 : n0 ≤ h0.size) (OZ : Old Z n0 h0) (S_COMPACT_STRINGS : Sta Z Z.heap c2_ c13_ "Z" (.int cs)) (hcs : ¬ (cs = (0 : Int32))) (hCH : Jvm.Lit.constHeld Z c2_ 7) (hcw : Jvm.Lit.compactW.before a0 Z = true) :
    MetFree l y19_ (head1 (Jvm.Cond.code y19_ method_3_code 3 (some (.object c2_)) :: ws) (rM_ 5 4 10 82)) (fun a U => a = #[(.int p0), (.int p1), (.int p2)] ∧ (Z.Warmed39 U.vm ∧ own_I Z U.vm h0) ∧ U.heap = h0) (fun _ _ _ _ _ => True) (fun _ U o U' => ∃ v L, o = .returned v ∧ (Q5 Z p0 p1 p2 cs h0 n0 v U'.heap L ∧ own_I Z U'.vm U'.heap) ∧ ReturnedEndW U o U' L (rM_ 5 4 10 82).cells (rM_ 5 4 10 82).slots) := by
  refine MetFree.of_bodySF (plainFor_of_name pn_5) hisR ?_
  intro p e s m args below meth c s₁ Bd hml0 hP hK
  obtain ⟨rfl, ⟨hZ, hI⟩, hh⟩ := hP
  have hx := Bd.exec
  have hby := Bd.bytes
  have hml : c.maxLocals = 3 := hml0
  have hown : s.vm.findClass c10_ = some m.cls := findClass_of_methodNamed Bd.named
  have X0 : Stand p l e (rM_ 5 4 10 82) s m #[(.int p0), (.int p1), (.int p2)] below meth c s₁ [] 0 0 := Stand.of_body Bd
  have e0 : s₁.heap = h0 := by rw [← hh, Bd.state]; rfl
  have N0 := Fr.nil n0
  have K0 : Keep h0 h0 [] := Keep.refl h0 _
  replace X0 : Stand p l e (rM_ 5 4 10 82) (s.setVm s.vm) m #[(.int p0), (.int p1), (.int p2)] below meth c s₁ [] 0 0 := X0
  replace hZ : Z.Warmed39 (s.setVm s.vm).vm := hZ
  replace hown : (s.setVm s.vm).vm.findClass c10_ = some m.cls := hown
  have hSi : s.Since s.vm 0 := (State.WarmedH.refl s).since 0
  have hk : 0 ≤ h0.size := Nat.zero_le _
  replace hI : own_I Z (s.setVm s.vm).vm h0 := hI
  have H : oH_ p _ m c Z _ _ _ := ⟨hx, hZ, hown, hml, hby⟩
  change own_Go p e below (own_PostI s Z _ _ _) _
  refine own_by (fun t k => castTop (ef_5 m p0 p1 p2) k) ?_
  refine oG X0 H r5_0_1 2 #[iv p0, iv p1, iv p2] [(.int (1 : Int32)), (.int p0)] ?_
  refine oB_ (tF_ s₁ (mkF m 3 #[iv p0, iv p1, iv p2] [(.int (p0 &&& (1 : Int32)))])) (fun t k => ?_) ?_
  · refine XS.iand X0.here hx rfl (hb hby d5_2) rfl ?_
    exact k
  by_cases hc1 : (p0 &&& (1 : Int32)) = (0 : Int32)
  · skip
    refine own_by (fun t k => XS.ifYes X0.here hx rfl (pc0 := 3) (pc' := 16) rfl (hb hby d5_3) rfl ((if0 _ _).trans (teq hc1).1) dE_ dE_ k) ?_
    refine oG X0 H r5_16_17 18 #[iv p0, iv p1, iv p2] [(.int (3 : Int32)), (.int p2)] ?_
    refine oB_ (tF_ s₁ (mkF m 19 #[iv p0, iv p1, iv p2] [(.int (p2 &&& (3 : Int32)))])) (fun t k => ?_) ?_
    · refine XS.iand X0.here hx rfl (hb hby d5_18) rfl ?_
      exact k
    refine oH X0 H r5_19_20 21 [(.int (2 : Int32)), (.int p2), (.int (p2 &&& (3 : Int32)))] ?_
    refine oB_ (tF_ s₁ (mkF m 22 #[iv p0, iv p1, iv p2] [(.int ((p2.toUInt32 >>> ((2 : Int32) &&& 31).toUInt32).toInt32)), (.int (p2 &&& (3 : Int32)))])) (fun t k => ?_) ?_
    · refine XS.iushr X0.here hx rfl (hb hby d5_21) rfl ?_
      exact k
    refine own_ccI hSi (by rw [show s₁.heap = h0 from e0]; exact hk) hZ hown (own_callSI X0 hx hZ hI (y := y18_) hown (hV hw 0) (hV hw 1) (hV hw 2) (hV hw 3) dE_ (rm1 l Z a0 hw [] (p2 &&& (3 : Int32)) ((p2.toUInt32 >>> ((2 : Int32) &&& 31).toUInt32).toInt32) cs h0 n0 Z0 (own_m3 p2) OZ S_COMPACT_STRINGS hcs hCH hcw) e0 0 rfl hml [(.int (p2 &&& (3 : Int32))), (.int ((p2.toUInt32 >>> ((2 : Int32) &&& 31).toUInt32).toInt32))] [] rfl (lenOf pd_0 rfl) rfl (hb hby d5_22)) fun T3 L3 v3 X3 hSi hZ hown hQ3 hI => ?_
    obtain ⟨b3_0, vs_3, rfl, N3, K3, T_b3_0', sz_b3_0'⟩ := hQ3
    replace N0 := Fr.app N0 N3
    have sz_b3_0 := Nat.le_trans K0.1 sz_b3_0'
    replace K0 := K0.trans K3 all0
    replace hk : T3.heap.size ≤ T3.heap.size := Nat.le_refl _
    have T_b3_0 := T_b3_0'
    show own_Go p e below _ (T3.setTop (mkF m 25 #[iv p0, iv p1, iv p2] [(.ref b3_0)]))
    exact own_retRI X3 Bd.notSynchronized hx Bd.returns rfl rfl rfl (hb hby d5_25) hSi hk ⟨b3_0, vs_3, rfl, N0, K0, T_b3_0, sz_b3_0⟩ hI dE_ dE_
  · skip
    refine own_by (fun t k => XS.ifNo X0.here hx rfl (hb hby d5_3) rfl ((if0 _ _).trans (feq hc1).1) k) ?_
    refine oG X0 H r5_6_7 8 #[iv p0, iv p1, iv p2] [(.int (3 : Int32)), (.int p1)] ?_
    refine oB_ (tF_ s₁ (mkF m 9 #[iv p0, iv p1, iv p2] [(.int (p1 &&& (3 : Int32)))])) (fun t k => ?_) ?_
    · refine XS.iand X0.here hx rfl (hb hby d5_8) rfl ?_
      exact k
    refine oH X0 H r5_9_10 11 [(.int (2 : Int32)), (.int p1), (.int (p1 &&& (3 : Int32)))] ?_
    refine oB_ (tF_ s₁ (mkF m 12 #[iv p0, iv p1, iv p2] [(.int ((p1.toUInt32 >>> ((2 : Int32) &&& 31).toUInt32).toInt32)), (.int (p1 &&& (3 : Int32)))])) (fun t k => ?_) ?_
    · refine XS.iushr X0.here hx rfl (hb hby d5_11) rfl ?_
      exact k
    refine own_ccI hSi (by rw [show s₁.heap = h0 from e0]; exact hk) hZ hown (own_callSI X0 hx hZ hI (y := y18_) hown (hV hw 0) (hV hw 1) (hV hw 2) (hV hw 3) dE_ (rm1 l Z a0 hw [] (p1 &&& (3 : Int32)) ((p1.toUInt32 >>> ((2 : Int32) &&& 31).toUInt32).toInt32) cs h0 n0 Z0 (own_m3 p1) OZ S_COMPACT_STRINGS hcs hCH hcw) e0 0 rfl hml [(.int (p1 &&& (3 : Int32))), (.int ((p1.toUInt32 >>> ((2 : Int32) &&& 31).toUInt32).toInt32))] [] rfl (lenOf pd_0 rfl) rfl (hb hby d5_12)) fun T5 L5 v5 X5 hSi hZ hown hQ5 hI => ?_
    obtain ⟨b5_0, vs_5, rfl, N5, K5, T_b5_0', sz_b5_0'⟩ := hQ5
    replace N0 := Fr.app N0 N5
    have sz_b5_0 := Nat.le_trans K0.1 sz_b5_0'
    replace K0 := K0.trans K5 all0
    replace hk : T5.heap.size ≤ T5.heap.size := Nat.le_refl _
    have T_b5_0 := T_b5_0'
    show own_Go p e below _ (T5.setTop (mkF m 15 #[iv p0, iv p1, iv p2] [(.ref b5_0)]))
    exact own_retRI X5 Bd.notSynchronized hx Bd.returns rfl rfl rfl (hb hby d5_15) hSi hk ⟨b5_0, vs_5, rfl, N0, K0, T_b5_0, sz_b5_0⟩ hI dE_ dE_

theorem d29_0 : dC7_ 0 (.aload_n 0, 1) := by decide +kernel
theorem d29_1 : dC7_ 1 (.arraylength, 1) := by decide +kernel
theorem d29_2 : dC7_ 2 (.aload_n 1, 1) := by decide +kernel
theorem d29_3 : dC7_ 3 (.arraylength, 1) := by decide +kernel
theorem d29_4 : dC7_ 4 (.if_icmp .ne 30, 3) := by decide +kernel
theorem d29_34 : dC7_ 34 (.iconst 0, 1) := by decide +kernel
theorem d29_35 : dC7_ 35 (.ireturn, 1) := by decide +kernel
theorem r29_0_0 : oDec jdk_43_method_13_code [(0, .aload_n 0, 1)] := by decide +kernel
theorem r29_2_2 : oDec jdk_43_method_13_code [(2, .aload_n 1, 1)] := by decide +kernel
theorem r29_34_34 : oDec jdk_43_method_13_code [(34, .iconst 0, 1)] := by decide +kernel
theorem pn_29 : plainName "java/lang/StringLatin1" = true := by first | (simp [plainName, overriddenIn]; done) | decide +kernel
theorem ef_29 (m : MethodId) (x0 x1 : Addr) : entryFrame m #[(.ref x0), (.ref x1)] 3 = mkF m 0 #[rv x0, rv x1, oU] [] := by first | (simp [entryFrame, mkF, argsToLocals, Value.category]; done) | rfl
set_option maxRecDepth 65536 in
set_option maxHeartbeats 40000000 in
theorem rm29_len (hw : oW_ a0 Z) {N0_ : Int32} {N1_ : Int32} (Z0 : n0 ≤ h0.size) (V_o0 : Arv Z h0 o0 k0 .byte N0_ l0 oZ) (V_o1 : Arv Z h0 o1 k1 .byte N1_ l1 oZ) (hNN : ¬ (N0_ = N1_)) :
    oM l y5_ jdk_43_method_13_code 3 (some .boolean) ws (rM_ 0 0 0 0) #[(.ref o0), (.ref o1)] Z h0 (fun v h L => v = some oZ ∧ Fr n0 L ∧ h = h0) := by
  refine own_body c16_ (plainFor_of_name pn_29) (fun m => ef_29 m o0 o1) fun p e s m below meth c s₁ X0 H hnm Bret Blk e0 => ?_
  obtain ⟨hx, _, _, _, hby⟩ := id H
  have N0 := Fr.nil n0
  refine oG X0 H r29_0_0 1 #[rv o0, rv o1, oU] [(.ref o0)] ?_
  refine oLen X0 H e0 V_o0 d29_1 ?_
  refine oH X0 H r29_2_2 3 [(.ref o1), (.int N0_)] ?_
  refine oLen X0 H e0 V_o1 d29_3 ?_
  refine oCY X0 H oD0 d29_4 34 #[rv o0, rv o1, oU] [] rfl (feq hNN).2 ?_
  refine oH X0 H r29_34_34 35 [oZ] ?_
  exact own_retN X0 Blk hx (t := .boolean) Bret (by simp) (hb hby d29_35) (by
      try rw [show s₁.heap = h0 from e0]
      exact ⟨rfl, N0, rfl⟩) dE_ dE_

theorem d29_7 : dC7_ 7 (.iconst 0, 1) := by decide +kernel
theorem d29_8 : dC7_ 8 (.istore_n 2, 1) := by decide +kernel
theorem d29_9 : dC7_ 9 (.iload_n 2, 1) := by decide +kernel
theorem d29_10 : dC7_ 10 (.aload_n 0, 1) := by decide +kernel
theorem d29_11 : dC7_ 11 (.arraylength, 1) := by decide +kernel
theorem d29_12 : dC7_ 12 (.if_icmp .ge 20, 3) := by decide +kernel
theorem d29_32 : dC7_ 32 (.iconst 1, 1) := by decide +kernel
theorem d29_33 : dC7_ 33 (.ireturn, 1) := by decide +kernel
theorem r29_7_10 : oDec jdk_43_method_13_code [(7, .iconst 0, 1), (8, .istore_n 2, 1), (9, .iload_n 2, 1), (10, .aload_n 0, 1)] := by decide +kernel
theorem r29_32_32 : oDec jdk_43_method_13_code [(32, .iconst 1, 1)] := by decide +kernel
set_option maxRecDepth 65536 in
set_option maxHeartbeats 40000000 in
theorem rm29_16 (hw : oW_ a0 Z) (Z0 : n0 ≤ h0.size) (V_o0 : Arv Z h0 o0 k0 .byte (0 : Int32) [] oZ) (V_o1 : Arv Z h0 o1 k1 .byte (0 : Int32) [] oZ) :
    oM l y5_ jdk_43_method_13_code 3 (some .boolean) ws (rM_ 0 0 0 0) #[(.ref o0), (.ref o1)] Z h0 (fun v h L => v = some (.int (1 : Int32)) ∧ Fr n0 L ∧ h = h0) := by
  refine own_body c16_ (plainFor_of_name pn_29) (fun m => ef_29 m o0 o1) fun p e s m below meth c s₁ X0 H hnm Bret Blk e0 => ?_
  obtain ⟨hx, _, _, _, hby⟩ := id H
  have N0 := Fr.nil n0
  refine oG X0 H r29_0_0 1 #[rv o0, rv o1, oU] [(.ref o0)] ?_
  refine oLen X0 H e0 V_o0 d29_1 ?_
  refine oH X0 H r29_2_2 3 [(.ref o1), oZ] ?_
  refine oLen X0 H e0 V_o1 d29_3 ?_
  refine oCN X0 H oD0 d29_4 #[rv o0, rv o1, oU] [] rfl (teq (by decide : (0 : Int32) = (0 : Int32))).2 ?_
  refine oG X0 H r29_7_10 11 #[rv o0, rv o1, iv (0 : Int32)] [(.ref o0), oZ] ?_
  refine oLen X0 H e0 V_o0 d29_11 ?_
  refine oCY X0 H oD0 d29_12 32 #[rv o0, rv o1, iv (0 : Int32)] [] rfl (flt (by decide : ¬ ((0 : Int32) < (0 : Int32)))).2.1 ?_
  refine oH X0 H r29_32_32 33 [(.int (1 : Int32))] ?_
  exact own_retN X0 Blk hx (t := .boolean) Bret (by simp) (hb hby d29_33) (by
      try rw [show s₁.heap = h0 from e0]
      exact ⟨rfl, N0, rfl⟩) dE_ dE_

theorem d29_15 : dC7_ 15 (.aload_n 0, 1) := by decide +kernel
theorem d29_16 : dC7_ 16 (.iload_n 2, 1) := by decide +kernel
theorem d29_17 : dC7_ 17 (.baload, 1) := by decide +kernel
theorem d29_18 : dC7_ 18 (.aload_n 1, 1) := by decide +kernel
theorem d29_19 : dC7_ 19 (.iload_n 2, 1) := by decide +kernel
theorem d29_20 : dC7_ 20 (.baload, 1) := by decide +kernel
theorem d29_21 : dC7_ 21 (.if_icmp .eq 5, 3) := by decide +kernel
theorem d29_26 : dC7_ 26 (.iinc 2 1, 3) := by decide +kernel
theorem d29_29 : dC7_ 29 (.goto (-20), 3) := by decide +kernel
theorem r29_15_16 : oDec jdk_43_method_13_code [(15, .aload_n 0, 1), (16, .iload_n 2, 1)] := by decide +kernel
theorem r29_18_19 : oDec jdk_43_method_13_code [(18, .aload_n 1, 1), (19, .iload_n 2, 1)] := by decide +kernel
theorem r29_29_10 : oDec jdk_43_method_13_code [(29, .goto (-20), 3), (9, .iload_n 2, 1), (10, .aload_n 0, 1)] := by decide +kernel
set_option maxRecDepth 65536 in
set_option maxHeartbeats 40000000 in
theorem rm29_17 (hw : oW_ a0 Z) (Z0 : n0 ≤ h0.size) (V_o0 : Arv Z h0 o0 k0 .byte (1 : Int32) [(.int i0)] oZ) (V_o1 : Arv Z h0 o1 k1 .byte (1 : Int32) [(.int i1)] oZ) (hp0 : i0 = i1) :
    oM l y5_ jdk_43_method_13_code 3 (some .boolean) ws (rM_ 0 0 0 0) #[(.ref o0), (.ref o1)] Z h0 (fun v h L => v = some (.int (1 : Int32)) ∧ Fr n0 L ∧ h = h0) := by
  refine own_body c16_ (plainFor_of_name pn_29) (fun m => ef_29 m o0 o1) fun p e s m below meth c s₁ X0 H hnm Bret Blk e0 => ?_
  obtain ⟨hx, _, _, _, hby⟩ := id H
  have N0 := Fr.nil n0
  refine oG X0 H r29_0_0 1 #[rv o0, rv o1, oU] [(.ref o0)] ?_
  refine oLen X0 H e0 V_o0 d29_1 ?_
  refine oH X0 H r29_2_2 3 [(.ref o1), (.int (1 : Int32))] ?_
  refine oLen X0 H e0 V_o1 d29_3 ?_
  refine oCN X0 H oD0 d29_4 #[rv o0, rv o1, oU] [] rfl (teq (by decide : (1 : Int32) = (1 : Int32))).2 ?_
  refine oG X0 H r29_7_10 11 #[rv o0, rv o1, iv (0 : Int32)] [(.ref o0), oZ] ?_
  refine oLen X0 H e0 V_o0 d29_11 ?_
  refine oCN X0 H oD0 d29_12 #[rv o0, rv o1, iv (0 : Int32)] [] rfl (tlt (by decide : (0 : Int32) < (1 : Int32))).2.1 ?_
  refine oH X0 H r29_15_16 17 [oZ, (.ref o0)] ?_
  refine oBal X0 H e0 V_o0 d29_17 (.int i0) ?_
  refine oH X0 H r29_18_19 20 [oZ, (.ref o1), (.int i0)] ?_
  refine oBal X0 H e0 V_o1 d29_20 (.int i1) ?_
  refine oCY X0 H oD0 d29_21 26 #[rv o0, rv o1, iv (0 : Int32)] [] rfl (teq hp0).1 ?_
  refine oB_ (tF_ s₁ (mkF m 29 #[rv o0, rv o1, iv (1 : Int32)] [])) (fun t k => ?_) ?_
  · refine XS.iinc X0.here hx rfl (hb hby d29_26) rfl (l' := #[rv o0, rv o1, iv (1 : Int32)]) rfl ?_
    exact k
  refine oH X0 H r29_29_10 11 [(.ref o0), (.int (1 : Int32))] ?_
  refine oLen X0 H e0 V_o0 d29_11 ?_
  refine oCY X0 H oD0 d29_12 32 #[rv o0, rv o1, iv (1 : Int32)] [] rfl (flt (by decide : ¬ ((1 : Int32) < (1 : Int32)))).2.1 ?_
  refine oH X0 H r29_32_32 33 [(.int (1 : Int32))] ?_
  exact own_retN X0 Blk hx (t := .boolean) Bret (by simp) (hb hby d29_33) (by
      try rw [show s₁.heap = h0 from e0]
      exact ⟨rfl, N0, rfl⟩) dE_ dE_

set_option maxRecDepth 65536 in
set_option maxHeartbeats 40000000 in
theorem rm29_18 (hw : oW_ a0 Z) (Z0 : n0 ≤ h0.size) (V_o0 : Arv Z h0 o0 k0 .byte (2 : Int32) [(.int i0), (.int i1)] oZ) (V_o1 : Arv Z h0 o1 k1 .byte (2 : Int32) [(.int i2), (.int i3)] oZ) (hp0 : i0 = i2) (hp1 : i1 = i3) :
    oM l y5_ jdk_43_method_13_code 3 (some .boolean) ws (rM_ 0 0 0 0) #[(.ref o0), (.ref o1)] Z h0 (fun v h L => v = some (.int (1 : Int32)) ∧ Fr n0 L ∧ h = h0) := by
  refine own_body c16_ (plainFor_of_name pn_29) (fun m => ef_29 m o0 o1) fun p e s m below meth c s₁ X0 H hnm Bret Blk e0 => ?_
  obtain ⟨hx, _, _, _, hby⟩ := id H
  have N0 := Fr.nil n0
  refine oG X0 H r29_0_0 1 #[rv o0, rv o1, oU] [(.ref o0)] ?_
  refine oLen X0 H e0 V_o0 d29_1 ?_
  refine oH X0 H r29_2_2 3 [(.ref o1), (.int (2 : Int32))] ?_
  refine oLen X0 H e0 V_o1 d29_3 ?_
  refine oCN X0 H oD0 d29_4 #[rv o0, rv o1, oU] [] rfl (teq (by decide : (2 : Int32) = (2 : Int32))).2 ?_
  refine oG X0 H r29_7_10 11 #[rv o0, rv o1, iv (0 : Int32)] [(.ref o0), oZ] ?_
  refine oLen X0 H e0 V_o0 d29_11 ?_
  refine oCN X0 H oD0 d29_12 #[rv o0, rv o1, iv (0 : Int32)] [] rfl (tlt (by decide : (0 : Int32) < (2 : Int32))).2.1 ?_
  refine oH X0 H r29_15_16 17 [oZ, (.ref o0)] ?_
  refine oBal X0 H e0 V_o0 d29_17 (.int i0) ?_
  refine oH X0 H r29_18_19 20 [oZ, (.ref o1), (.int i0)] ?_
  refine oBal X0 H e0 V_o1 d29_20 (.int i2) ?_
  refine oCY X0 H oD0 d29_21 26 #[rv o0, rv o1, iv (0 : Int32)] [] rfl (teq hp0).1 ?_
  refine oB_ (tF_ s₁ (mkF m 29 #[rv o0, rv o1, iv (1 : Int32)] [])) (fun t k => ?_) ?_
  · refine XS.iinc X0.here hx rfl (hb hby d29_26) rfl (l' := #[rv o0, rv o1, iv (1 : Int32)]) rfl ?_
    exact k
  refine oH X0 H r29_29_10 11 [(.ref o0), (.int (1 : Int32))] ?_
  refine oLen X0 H e0 V_o0 d29_11 ?_
  refine oCN X0 H oD0 d29_12 #[rv o0, rv o1, iv (1 : Int32)] [] rfl (tlt (by decide : (1 : Int32) < (2 : Int32))).2.1 ?_
  refine oH X0 H r29_15_16 17 [(.int (1 : Int32)), (.ref o0)] ?_
  refine oBal X0 H e0 V_o0 d29_17 (.int i1) ?_
  refine oH X0 H r29_18_19 20 [(.int (1 : Int32)), (.ref o1), (.int i1)] ?_
  refine oBal X0 H e0 V_o1 d29_20 (.int i3) ?_
  refine oCY X0 H oD0 d29_21 26 #[rv o0, rv o1, iv (1 : Int32)] [] rfl (teq hp1).1 ?_
  refine oB_ (tF_ s₁ (mkF m 29 #[rv o0, rv o1, iv (2 : Int32)] [])) (fun t k => ?_) ?_
  · refine XS.iinc X0.here hx rfl (hb hby d29_26) rfl (l' := #[rv o0, rv o1, iv (2 : Int32)]) rfl ?_
    exact k
  refine oH X0 H r29_29_10 11 [(.ref o0), (.int (2 : Int32))] ?_
  refine oLen X0 H e0 V_o0 d29_11 ?_
  refine oCY X0 H oD0 d29_12 32 #[rv o0, rv o1, iv (2 : Int32)] [] rfl (flt (by decide : ¬ ((2 : Int32) < (2 : Int32)))).2.1 ?_
  refine oH X0 H r29_32_32 33 [(.int (1 : Int32))] ?_
  exact own_retN X0 Blk hx (t := .boolean) Bret (by simp) (hb hby d29_33) (by
      try rw [show s₁.heap = h0 from e0]
      exact ⟨rfl, N0, rfl⟩) dE_ dE_

set_option maxRecDepth 65536 in
set_option maxHeartbeats 40000000 in
theorem rm29_19 (hw : oW_ a0 Z) (Z0 : n0 ≤ h0.size) (V_o0 : Arv Z h0 o0 k0 .byte (3 : Int32) [(.int i0), (.int i1), (.int i2)] oZ) (V_o1 : Arv Z h0 o1 k1 .byte (3 : Int32) [(.int i3), (.int i4), (.int i5)] oZ) (hp0 : i0 = i3) (hp1 : i1 = i4) (hp2 : i2 = i5) :
    oM l y5_ jdk_43_method_13_code 3 (some .boolean) ws (rM_ 0 0 0 0) #[(.ref o0), (.ref o1)] Z h0 (fun v h L => v = some (.int (1 : Int32)) ∧ Fr n0 L ∧ h = h0) := by
  refine own_body c16_ (plainFor_of_name pn_29) (fun m => ef_29 m o0 o1) fun p e s m below meth c s₁ X0 H hnm Bret Blk e0 => ?_
  obtain ⟨hx, _, _, _, hby⟩ := id H
  have N0 := Fr.nil n0
  refine oG X0 H r29_0_0 1 #[rv o0, rv o1, oU] [(.ref o0)] ?_
  refine oLen X0 H e0 V_o0 d29_1 ?_
  refine oH X0 H r29_2_2 3 [(.ref o1), (.int (3 : Int32))] ?_
  refine oLen X0 H e0 V_o1 d29_3 ?_
  refine oCN X0 H oD0 d29_4 #[rv o0, rv o1, oU] [] rfl (teq (by decide : (3 : Int32) = (3 : Int32))).2 ?_
  refine oG X0 H r29_7_10 11 #[rv o0, rv o1, iv (0 : Int32)] [(.ref o0), oZ] ?_
  refine oLen X0 H e0 V_o0 d29_11 ?_
  refine oCN X0 H oD0 d29_12 #[rv o0, rv o1, iv (0 : Int32)] [] rfl (tlt (by decide : (0 : Int32) < (3 : Int32))).2.1 ?_
  refine oH X0 H r29_15_16 17 [oZ, (.ref o0)] ?_
  refine oBal X0 H e0 V_o0 d29_17 (.int i0) ?_
  refine oH X0 H r29_18_19 20 [oZ, (.ref o1), (.int i0)] ?_
  refine oBal X0 H e0 V_o1 d29_20 (.int i3) ?_
  refine oCY X0 H oD0 d29_21 26 #[rv o0, rv o1, iv (0 : Int32)] [] rfl (teq hp0).1 ?_
  refine oB_ (tF_ s₁ (mkF m 29 #[rv o0, rv o1, iv (1 : Int32)] [])) (fun t k => ?_) ?_
  · refine XS.iinc X0.here hx rfl (hb hby d29_26) rfl (l' := #[rv o0, rv o1, iv (1 : Int32)]) rfl ?_
    exact k
  refine oH X0 H r29_29_10 11 [(.ref o0), (.int (1 : Int32))] ?_
  refine oLen X0 H e0 V_o0 d29_11 ?_
  refine oCN X0 H oD0 d29_12 #[rv o0, rv o1, iv (1 : Int32)] [] rfl (tlt (by decide : (1 : Int32) < (3 : Int32))).2.1 ?_
  refine oH X0 H r29_15_16 17 [(.int (1 : Int32)), (.ref o0)] ?_
  refine oBal X0 H e0 V_o0 d29_17 (.int i1) ?_
  refine oH X0 H r29_18_19 20 [(.int (1 : Int32)), (.ref o1), (.int i1)] ?_
  refine oBal X0 H e0 V_o1 d29_20 (.int i4) ?_
  refine oCY X0 H oD0 d29_21 26 #[rv o0, rv o1, iv (1 : Int32)] [] rfl (teq hp1).1 ?_
  refine oB_ (tF_ s₁ (mkF m 29 #[rv o0, rv o1, iv (2 : Int32)] [])) (fun t k => ?_) ?_
  · refine XS.iinc X0.here hx rfl (hb hby d29_26) rfl (l' := #[rv o0, rv o1, iv (2 : Int32)]) rfl ?_
    exact k
  refine oH X0 H r29_29_10 11 [(.ref o0), (.int (2 : Int32))] ?_
  refine oLen X0 H e0 V_o0 d29_11 ?_
  refine oCN X0 H oD0 d29_12 #[rv o0, rv o1, iv (2 : Int32)] [] rfl (tlt (by decide : (2 : Int32) < (3 : Int32))).2.1 ?_
  refine oH X0 H r29_15_16 17 [(.int (2 : Int32)), (.ref o0)] ?_
  refine oBal X0 H e0 V_o0 d29_17 (.int i2) ?_
  refine oH X0 H r29_18_19 20 [(.int (2 : Int32)), (.ref o1), (.int i2)] ?_
  refine oBal X0 H e0 V_o1 d29_20 (.int i5) ?_
  refine oCY X0 H oD0 d29_21 26 #[rv o0, rv o1, iv (2 : Int32)] [] rfl (teq hp2).1 ?_
  refine oB_ (tF_ s₁ (mkF m 29 #[rv o0, rv o1, iv (3 : Int32)] [])) (fun t k => ?_) ?_
  · refine XS.iinc X0.here hx rfl (hb hby d29_26) rfl (l' := #[rv o0, rv o1, iv (3 : Int32)]) rfl ?_
    exact k
  refine oH X0 H r29_29_10 11 [(.ref o0), (.int (3 : Int32))] ?_
  refine oLen X0 H e0 V_o0 d29_11 ?_
  refine oCY X0 H oD0 d29_12 32 #[rv o0, rv o1, iv (3 : Int32)] [] rfl (flt (by decide : ¬ ((3 : Int32) < (3 : Int32)))).2.1 ?_
  refine oH X0 H r29_32_32 33 [(.int (1 : Int32))] ?_
  exact own_retN X0 Blk hx (t := .boolean) Bret (by simp) (hb hby d29_33) (by
      try rw [show s₁.heap = h0 from e0]
      exact ⟨rfl, N0, rfl⟩) dE_ dE_

theorem d28_0 : dC8_ 0 (.aload_n 0, 1) := by decide +kernel
theorem d28_1 : dC8_ 1 (.aload_n 1, 1) := by decide +kernel
theorem d28_2 : dC8_ 2 (.if_acmp .ne 5, 3) := by decide +kernel
theorem d28_7 : dC8_ 7 (.aload_n 1, 1) := by decide +kernel
theorem d28_8 : dC8_ 8 (.instanceof 10, 3) := by decide +kernel
theorem d28_11 : dC8_ 11 (.ifCond .eq 43, 3) := by decide +kernel
theorem d28_14 : dC8_ 14 (.aload_n 1, 1) := by decide +kernel
theorem d28_15 : dC8_ 15 (.checkcast 10, 3) := by decide +kernel
theorem d28_18 : dC8_ 18 (.astore_n 2, 1) := by decide +kernel
theorem d28_19 : dC8_ 19 (.getstatic 38, 3) := by decide +kernel
theorem d28_22 : dC8_ 22 (.ifCond .eq 14, 3) := by decide +kernel
theorem d28_25 : dC8_ 25 (.aload_n 0, 1) := by decide +kernel
theorem d28_26 : dC8_ 26 (.getfield 15, 3) := by decide +kernel
theorem d28_29 : dC8_ 29 (.aload_n 2, 1) := by decide +kernel
theorem d28_30 : dC8_ 30 (.getfield 15, 3) := by decide +kernel
theorem d28_33 : dC8_ 33 (.if_icmp .ne 21, 3) := by decide +kernel
theorem d28_36 : dC8_ 36 (.aload_n 0, 1) := by decide +kernel
theorem d28_37 : dC8_ 37 (.getfield 9, 3) := by decide +kernel
theorem d28_40 : dC8_ 40 (.aload_n 2, 1) := by decide +kernel
theorem d28_41 : dC8_ 41 (.getfield 9, 3) := by decide +kernel
theorem d28_44 : dC8_ 44 (.invokestatic 541, 3) := by decide +kernel
theorem d28_47 : dC8_ 47 (.ifCond .eq 7, 3) := by decide +kernel
theorem d28_50 : dC8_ 50 (.iconst 1, 1) := by decide +kernel
theorem d28_51 : dC8_ 51 (.goto 4, 3) := by decide +kernel
theorem d28_55 : dC8_ 55 (.ireturn, 1) := by decide +kernel
theorem r28_0_1 : oDec jdk_42_method_66_code [(0, .aload_n 0, 1), (1, .aload_n 1, 1)] := by decide +kernel
theorem r28_7_7 : oDec jdk_42_method_66_code [(7, .aload_n 1, 1)] := by decide +kernel
theorem r28_14_14 : oDec jdk_42_method_66_code [(14, .aload_n 1, 1)] := by decide +kernel
theorem r28_18_18 : oDec jdk_42_method_66_code [(18, .astore_n 2, 1)] := by decide +kernel
theorem r28_25_25 : oDec jdk_42_method_66_code [(25, .aload_n 0, 1)] := by decide +kernel
theorem r28_29_29 : oDec jdk_42_method_66_code [(29, .aload_n 2, 1)] := by decide +kernel
theorem r28_36_36 : oDec jdk_42_method_66_code [(36, .aload_n 0, 1)] := by decide +kernel
theorem r28_40_40 : oDec jdk_42_method_66_code [(40, .aload_n 2, 1)] := by decide +kernel
theorem r28_50_51 : oDec jdk_42_method_66_code [(50, .iconst 1, 1), (51, .goto 4, 3)] := by decide +kernel
theorem pn_28 : plainName "java/lang/String" = true := by first | (simp [plainName, overriddenIn]; done) | decide +kernel
theorem pd_22 : parseMethodDescriptor "([B[B)Z" = some ⟨[(.array .byte), (.array .byte)], some .boolean⟩ := by decide +kernel
theorem ef_28 (m : MethodId) (x0 x1 : Addr) : entryFrame m #[(.ref x0), (.ref x1)] 3 = mkF m 0 #[rv x0, rv x1, oU] [] := by first | (simp [entryFrame, mkF, argsToLocals, Value.category]; done) | rfl
set_option maxRecDepth 65536 in
set_option maxHeartbeats 40000000 in
theorem rm28_eq (hw : oW_ a0 Z) (Z0 : n0 ≤ h0.size) (OZ : Old Z n0 h0) (S_COMPACT_STRINGS : Sta Z Z.heap c2_ c13_ "Z" (.int cs)) (hcs : ¬ (cs = (0 : Int32))) (T_o0 : own_Str Z h0 o0 l0) (T_o1 : own_Str Z h0 o1 l1) (ne_o0_o1 : o0 ≠ o1) (heq : l0 = l1) :
    oM l y17_ jdk_42_method_66_code 3 (some .boolean) ws (rM_ 1 0 0 14) #[(.ref o0), (.ref o1)] Z h0 (fun v h L => v = some (.int (1 : Int32)) ∧ Fr n0 L ∧ h = h0) := by
  refine own_body c2_ (plainFor_of_name pn_28) (fun m => ef_28 m o0 o1) fun p e s m below meth c s₁ X0 H hnm Bret Blk e0 => ?_
  obtain ⟨hx, hZ, hown, _, hby⟩ := id H
  have N0 := Fr.nil n0
  obtain ⟨t0, _, _, _, F_coder_o0, F_value_o0, V_t0, S_0⟩ := T_o0
  obtain ⟨t1, _, _, E_o1, F_coder_o1, F_value_o1, V_t1, S_1⟩ := T_o1
  rcases S_0 with ⟨rfl, rfl⟩ | ⟨x0, rfl, rfl⟩ | ⟨x0, x1, rfl, rfl⟩ | ⟨x0, x1, x2, rfl, rfl⟩
  · rcases S_1 with ⟨rfl, rfl⟩ | ⟨y0, rfl, rfl⟩ | ⟨y0, y1, rfl, rfl⟩ | ⟨y0, y1, y2, rfl, rfl⟩
    · skip
      refine oG X0 H r28_0_1 2 #[rv o0, rv o1, oU] [(.ref o1), (.ref o0)] ?_
      refine own_by (fun t k => Jvm.RoadKit.acmp (g := (mkF m 2 #[rv o0, rv o1, oU] [(.ref o1), (.ref o0)])) X0 hx rfl rfl rfl (pc0 := 2) (pc' := 7) (same := false) rfl (hb hby d28_2) rfl (decide_eq_false fun q => ne_o0_o1 (Value.ref.inj q)) dE_ dE_ k) ?_
      refine oG X0 H r28_7_7 8 #[rv o0, rv o1, oU] [(.ref o1)] ?_
      refine own_c1 (instY X0 hx hZ hown (hV hw 199) e0 (Ins.self E_o1) rfl rfl (hb hby d28_8)) fun T1 X1 e1 => ?_
      refine oIN X1 H oD0 d28_11 #[rv o0, rv o1, oU] [] rfl ((if0 _ _).trans (feq (by decide : ¬ ((1 : Int32) = (0 : Int32)))).1) ?_
      refine oH X1 H r28_14_14 15 [(.ref o1)] ?_
      refine oKst X1 H (hV hw 199) e1 (Ins.self E_o1) d28_15 fun T2 X2 e2 => ?_
      refine oG X2 H r28_18_18 19 #[rv o0, rv o1, rv o1] [] ?_
      refine oGS X2 H (host := "") (Or.inl (hV hw 29)) Via.refl e2 (S_COMPACT_STRINGS.ext OZ.2) d28_19 fun T3 X3 e3 => ?_
      refine oIN X3 H oD0 d28_22 #[rv o0, rv o1, rv o1] [] rfl ((if0 _ _).trans (feq hcs).1) ?_
      refine oH X3 H r28_25_25 26 [(.ref o0)] ?_
      refine oGf X3 H (hV hw 25) e3 F_coder_o0 d28_26 fun T4 X4 e4 => ?_
      refine oG X4 H r28_29_29 30 #[rv o0, rv o1, rv o1] [(.ref o1), oZ] ?_
      refine oGf X4 H (hV hw 25) e4 F_coder_o1 d28_30 fun T5 X5 e5 => ?_
      refine oCN X5 H oD0 d28_33 #[rv o0, rv o1, rv o1] [] rfl (teq (by decide : (0 : Int32) = (0 : Int32))).2 ?_
      refine oH X5 H r28_36_36 37 [(.ref o0)] ?_
      refine oGf X5 H (hV hw 24) e5 F_value_o0 d28_37 fun T6 X6 e6 => ?_
      refine oG X6 H r28_40_40 41 #[rv o0, rv o1, rv o1] [(.ref o1), (.ref t0)] ?_
      refine oGf X6 H (hV hw 24) e6 F_value_o1 d28_41 fun T7 X7 e7 => ?_
      refine ocS X7 H (wb5_ hw) (rm29_16 hw Z0 V_t0 V_t1) e7 0 [(.ref t0), (.ref t1)] [] pd_22 d28_44 fun T9 _ _ X9 hQ9 => ?_
      obtain ⟨rfl, N9, e9⟩ := hQ9
      replace N0 := Fr.app N0 N9
      refine oIN X9 H oD0 d28_47 #[rv o0, rv o1, rv o1] [] rfl ((if0 _ _).trans (feq (by decide : ¬ ((1 : Int32) = (0 : Int32)))).1) ?_
      refine oH X9 H r28_50_51 55 [(.int (1 : Int32))] ?_
      exact own_retN X9 Blk hx (t := .boolean) Bret (by simp) (hb hby d28_55) (by
          try rw [show T9.heap = h0 from e9]
          exact ⟨rfl, N0, rfl⟩) dE_ dE_
    · exact absurd heq (by simp)
    · exact absurd heq (by simp)
    · exact absurd heq (by simp)
  · rcases S_1 with ⟨rfl, rfl⟩ | ⟨y0, rfl, rfl⟩ | ⟨y0, y1, rfl, rfl⟩ | ⟨y0, y1, y2, rfl, rfl⟩
    · exact absurd heq (by simp)
    · skip
      simp only [List.cons.injEq, Value.int.injEq, and_true] at heq
      have hq0 := heq
      refine oG X0 H r28_0_1 2 #[rv o0, rv o1, oU] [(.ref o1), (.ref o0)] ?_
      refine own_by (fun t k => Jvm.RoadKit.acmp (g := (mkF m 2 #[rv o0, rv o1, oU] [(.ref o1), (.ref o0)])) X0 hx rfl rfl rfl (pc0 := 2) (pc' := 7) (same := false) rfl (hb hby d28_2) rfl (decide_eq_false fun q => ne_o0_o1 (Value.ref.inj q)) dE_ dE_ k) ?_
      refine oG X0 H r28_7_7 8 #[rv o0, rv o1, oU] [(.ref o1)] ?_
      refine own_c1 (instY X0 hx hZ hown (hV hw 199) e0 (Ins.self E_o1) rfl rfl (hb hby d28_8)) fun T10 X10 e10 => ?_
      refine oIN X10 H oD0 d28_11 #[rv o0, rv o1, oU] [] rfl ((if0 _ _).trans (feq (by decide : ¬ ((1 : Int32) = (0 : Int32)))).1) ?_
      refine oH X10 H r28_14_14 15 [(.ref o1)] ?_
      refine oKst X10 H (hV hw 199) e10 (Ins.self E_o1) d28_15 fun T11 X11 e11 => ?_
      refine oG X11 H r28_18_18 19 #[rv o0, rv o1, rv o1] [] ?_
      refine oGS X11 H (host := "") (Or.inl (hV hw 29)) Via.refl e11 (S_COMPACT_STRINGS.ext OZ.2) d28_19 fun T12 X12 e12 => ?_
      refine oIN X12 H oD0 d28_22 #[rv o0, rv o1, rv o1] [] rfl ((if0 _ _).trans (feq hcs).1) ?_
      refine oH X12 H r28_25_25 26 [(.ref o0)] ?_
      refine oGf X12 H (hV hw 25) e12 F_coder_o0 d28_26 fun T13 X13 e13 => ?_
      refine oG X13 H r28_29_29 30 #[rv o0, rv o1, rv o1] [(.ref o1), oZ] ?_
      refine oGf X13 H (hV hw 25) e13 F_coder_o1 d28_30 fun T14 X14 e14 => ?_
      refine oCN X14 H oD0 d28_33 #[rv o0, rv o1, rv o1] [] rfl (teq (by decide : (0 : Int32) = (0 : Int32))).2 ?_
      refine oH X14 H r28_36_36 37 [(.ref o0)] ?_
      refine oGf X14 H (hV hw 24) e14 F_value_o0 d28_37 fun T15 X15 e15 => ?_
      refine oG X15 H r28_40_40 41 #[rv o0, rv o1, rv o1] [(.ref o1), (.ref t0)] ?_
      refine oGf X15 H (hV hw 24) e15 F_value_o1 d28_41 fun T16 X16 e16 => ?_
      refine ocS X16 H (wb5_ hw) (rm29_17 hw Z0 V_t0 V_t1 hq0) e16 0 [(.ref t0), (.ref t1)] [] pd_22 d28_44 fun T18 _ _ X18 hQ18 => ?_
      obtain ⟨rfl, N18, e18⟩ := hQ18
      replace N0 := Fr.app N0 N18
      refine oIN X18 H oD0 d28_47 #[rv o0, rv o1, rv o1] [] rfl ((if0 _ _).trans (feq (by decide : ¬ ((1 : Int32) = (0 : Int32)))).1) ?_
      refine oH X18 H r28_50_51 55 [(.int (1 : Int32))] ?_
      exact own_retN X18 Blk hx (t := .boolean) Bret (by simp) (hb hby d28_55) (by
          try rw [show T18.heap = h0 from e18]
          exact ⟨rfl, N0, rfl⟩) dE_ dE_
    · exact absurd heq (by simp)
    · exact absurd heq (by simp)
  · rcases S_1 with ⟨rfl, rfl⟩ | ⟨y0, rfl, rfl⟩ | ⟨y0, y1, rfl, rfl⟩ | ⟨y0, y1, y2, rfl, rfl⟩
    · exact absurd heq (by simp)
    · exact absurd heq (by simp)
    · skip
      simp only [List.cons.injEq, Value.int.injEq, and_true] at heq
      obtain ⟨hq0, hq1⟩ := heq
      refine oG X0 H r28_0_1 2 #[rv o0, rv o1, oU] [(.ref o1), (.ref o0)] ?_
      refine own_by (fun t k => Jvm.RoadKit.acmp (g := (mkF m 2 #[rv o0, rv o1, oU] [(.ref o1), (.ref o0)])) X0 hx rfl rfl rfl (pc0 := 2) (pc' := 7) (same := false) rfl (hb hby d28_2) rfl (decide_eq_false fun q => ne_o0_o1 (Value.ref.inj q)) dE_ dE_ k) ?_
      refine oG X0 H r28_7_7 8 #[rv o0, rv o1, oU] [(.ref o1)] ?_
      refine own_c1 (instY X0 hx hZ hown (hV hw 199) e0 (Ins.self E_o1) rfl rfl (hb hby d28_8)) fun T19 X19 e19 => ?_
      refine oIN X19 H oD0 d28_11 #[rv o0, rv o1, oU] [] rfl ((if0 _ _).trans (feq (by decide : ¬ ((1 : Int32) = (0 : Int32)))).1) ?_
      refine oH X19 H r28_14_14 15 [(.ref o1)] ?_
      refine oKst X19 H (hV hw 199) e19 (Ins.self E_o1) d28_15 fun T20 X20 e20 => ?_
      refine oG X20 H r28_18_18 19 #[rv o0, rv o1, rv o1] [] ?_
      refine oGS X20 H (host := "") (Or.inl (hV hw 29)) Via.refl e20 (S_COMPACT_STRINGS.ext OZ.2) d28_19 fun T21 X21 e21 => ?_
      refine oIN X21 H oD0 d28_22 #[rv o0, rv o1, rv o1] [] rfl ((if0 _ _).trans (feq hcs).1) ?_
      refine oH X21 H r28_25_25 26 [(.ref o0)] ?_
      refine oGf X21 H (hV hw 25) e21 F_coder_o0 d28_26 fun T22 X22 e22 => ?_
      refine oG X22 H r28_29_29 30 #[rv o0, rv o1, rv o1] [(.ref o1), oZ] ?_
      refine oGf X22 H (hV hw 25) e22 F_coder_o1 d28_30 fun T23 X23 e23 => ?_
      refine oCN X23 H oD0 d28_33 #[rv o0, rv o1, rv o1] [] rfl (teq (by decide : (0 : Int32) = (0 : Int32))).2 ?_
      refine oH X23 H r28_36_36 37 [(.ref o0)] ?_
      refine oGf X23 H (hV hw 24) e23 F_value_o0 d28_37 fun T24 X24 e24 => ?_
      refine oG X24 H r28_40_40 41 #[rv o0, rv o1, rv o1] [(.ref o1), (.ref t0)] ?_
      refine oGf X24 H (hV hw 24) e24 F_value_o1 d28_41 fun T25 X25 e25 => ?_
      refine ocS X25 H (wb5_ hw) (rm29_18 hw Z0 V_t0 V_t1 hq0 hq1) e25 0 [(.ref t0), (.ref t1)] [] pd_22 d28_44 fun T27 _ _ X27 hQ27 => ?_
      obtain ⟨rfl, N27, e27⟩ := hQ27
      replace N0 := Fr.app N0 N27
      refine oIN X27 H oD0 d28_47 #[rv o0, rv o1, rv o1] [] rfl ((if0 _ _).trans (feq (by decide : ¬ ((1 : Int32) = (0 : Int32)))).1) ?_
      refine oH X27 H r28_50_51 55 [(.int (1 : Int32))] ?_
      exact own_retN X27 Blk hx (t := .boolean) Bret (by simp) (hb hby d28_55) (by
          try rw [show T27.heap = h0 from e27]
          exact ⟨rfl, N0, rfl⟩) dE_ dE_
    · exact absurd heq (by simp)
  · rcases S_1 with ⟨rfl, rfl⟩ | ⟨y0, rfl, rfl⟩ | ⟨y0, y1, rfl, rfl⟩ | ⟨y0, y1, y2, rfl, rfl⟩
    · exact absurd heq (by simp)
    · exact absurd heq (by simp)
    · exact absurd heq (by simp)
    · skip
      simp only [List.cons.injEq, Value.int.injEq, and_true] at heq
      obtain ⟨hq0, hq1, hq2⟩ := heq
      refine oG X0 H r28_0_1 2 #[rv o0, rv o1, oU] [(.ref o1), (.ref o0)] ?_
      refine own_by (fun t k => Jvm.RoadKit.acmp (g := (mkF m 2 #[rv o0, rv o1, oU] [(.ref o1), (.ref o0)])) X0 hx rfl rfl rfl (pc0 := 2) (pc' := 7) (same := false) rfl (hb hby d28_2) rfl (decide_eq_false fun q => ne_o0_o1 (Value.ref.inj q)) dE_ dE_ k) ?_
      refine oG X0 H r28_7_7 8 #[rv o0, rv o1, oU] [(.ref o1)] ?_
      refine own_c1 (instY X0 hx hZ hown (hV hw 199) e0 (Ins.self E_o1) rfl rfl (hb hby d28_8)) fun T28 X28 e28 => ?_
      refine oIN X28 H oD0 d28_11 #[rv o0, rv o1, oU] [] rfl ((if0 _ _).trans (feq (by decide : ¬ ((1 : Int32) = (0 : Int32)))).1) ?_
      refine oH X28 H r28_14_14 15 [(.ref o1)] ?_
      refine oKst X28 H (hV hw 199) e28 (Ins.self E_o1) d28_15 fun T29 X29 e29 => ?_
      refine oG X29 H r28_18_18 19 #[rv o0, rv o1, rv o1] [] ?_
      refine oGS X29 H (host := "") (Or.inl (hV hw 29)) Via.refl e29 (S_COMPACT_STRINGS.ext OZ.2) d28_19 fun T30 X30 e30 => ?_
      refine oIN X30 H oD0 d28_22 #[rv o0, rv o1, rv o1] [] rfl ((if0 _ _).trans (feq hcs).1) ?_
      refine oH X30 H r28_25_25 26 [(.ref o0)] ?_
      refine oGf X30 H (hV hw 25) e30 F_coder_o0 d28_26 fun T31 X31 e31 => ?_
      refine oG X31 H r28_29_29 30 #[rv o0, rv o1, rv o1] [(.ref o1), oZ] ?_
      refine oGf X31 H (hV hw 25) e31 F_coder_o1 d28_30 fun T32 X32 e32 => ?_
      refine oCN X32 H oD0 d28_33 #[rv o0, rv o1, rv o1] [] rfl (teq (by decide : (0 : Int32) = (0 : Int32))).2 ?_
      refine oH X32 H r28_36_36 37 [(.ref o0)] ?_
      refine oGf X32 H (hV hw 24) e32 F_value_o0 d28_37 fun T33 X33 e33 => ?_
      refine oG X33 H r28_40_40 41 #[rv o0, rv o1, rv o1] [(.ref o1), (.ref t0)] ?_
      refine oGf X33 H (hV hw 24) e33 F_value_o1 d28_41 fun T34 X34 e34 => ?_
      refine ocS X34 H (wb5_ hw) (rm29_19 hw Z0 V_t0 V_t1 hq0 hq1 hq2) e34 0 [(.ref t0), (.ref t1)] [] pd_22 d28_44 fun T36 _ _ X36 hQ36 => ?_
      obtain ⟨rfl, N36, e36⟩ := hQ36
      replace N0 := Fr.app N0 N36
      refine oIN X36 H oD0 d28_47 #[rv o0, rv o1, rv o1] [] rfl ((if0 _ _).trans (feq (by decide : ¬ ((1 : Int32) = (0 : Int32)))).1) ?_
      refine oH X36 H r28_50_51 55 [(.int (1 : Int32))] ?_
      exact own_retN X36 Blk hx (t := .boolean) Bret (by simp) (hb hby d28_55) (by
          try rw [show T36.heap = h0 from e36]
          exact ⟨rfl, N0, rfl⟩) dE_ dE_

theorem d29_24 : dC7_ 24 (.iconst 0, 1) := by decide +kernel
theorem d29_25 : dC7_ 25 (.ireturn, 1) := by decide +kernel
theorem r29_24_24 : oDec jdk_43_method_13_code [(24, .iconst 0, 1)] := by decide +kernel
set_option maxRecDepth 65536 in
set_option maxHeartbeats 40000000 in
theorem rm29_20 (hw : oW_ a0 Z) (Z0 : n0 ≤ h0.size) (V_o0 : Arv Z h0 o0 k0 .byte (1 : Int32) [(.int i0)] oZ) (V_o1 : Arv Z h0 o1 k1 .byte (1 : Int32) [(.int i1)] oZ) (hp0 : ¬ (i0 = i1)) :
    oM l y5_ jdk_43_method_13_code 3 (some .boolean) ws (rM_ 0 0 0 0) #[(.ref o0), (.ref o1)] Z h0 (fun v h L => v = some oZ ∧ Fr n0 L ∧ h = h0) := by
  refine own_body c16_ (plainFor_of_name pn_29) (fun m => ef_29 m o0 o1) fun p e s m below meth c s₁ X0 H hnm Bret Blk e0 => ?_
  obtain ⟨hx, _, _, _, hby⟩ := id H
  have N0 := Fr.nil n0
  refine oG X0 H r29_0_0 1 #[rv o0, rv o1, oU] [(.ref o0)] ?_
  refine oLen X0 H e0 V_o0 d29_1 ?_
  refine oH X0 H r29_2_2 3 [(.ref o1), (.int (1 : Int32))] ?_
  refine oLen X0 H e0 V_o1 d29_3 ?_
  refine oCN X0 H oD0 d29_4 #[rv o0, rv o1, oU] [] rfl (teq (by decide : (1 : Int32) = (1 : Int32))).2 ?_
  refine oG X0 H r29_7_10 11 #[rv o0, rv o1, iv (0 : Int32)] [(.ref o0), oZ] ?_
  refine oLen X0 H e0 V_o0 d29_11 ?_
  refine oCN X0 H oD0 d29_12 #[rv o0, rv o1, iv (0 : Int32)] [] rfl (tlt (by decide : (0 : Int32) < (1 : Int32))).2.1 ?_
  refine oH X0 H r29_15_16 17 [oZ, (.ref o0)] ?_
  refine oBal X0 H e0 V_o0 d29_17 (.int i0) ?_
  refine oH X0 H r29_18_19 20 [oZ, (.ref o1), (.int i0)] ?_
  refine oBal X0 H e0 V_o1 d29_20 (.int i1) ?_
  refine oCN X0 H oD0 d29_21 #[rv o0, rv o1, iv (0 : Int32)] [] rfl (feq hp0).1 ?_
  refine oH X0 H r29_24_24 25 [oZ] ?_
  exact own_retN X0 Blk hx (t := .boolean) Bret (by simp) (hb hby d29_25) (by
      try rw [show s₁.heap = h0 from e0]
      exact ⟨rfl, N0, rfl⟩) dE_ dE_

set_option maxRecDepth 65536 in
set_option maxHeartbeats 40000000 in
theorem rm29_21 (hw : oW_ a0 Z) (Z0 : n0 ≤ h0.size) (V_o0 : Arv Z h0 o0 k0 .byte (2 : Int32) [(.int i0), (.int i1)] oZ) (V_o1 : Arv Z h0 o1 k1 .byte (2 : Int32) [(.int i2), (.int i3)] oZ) (hp0 : i0 = i2) (hp1 : ¬ (i1 = i3)) :
    oM l y5_ jdk_43_method_13_code 3 (some .boolean) ws (rM_ 0 0 0 0) #[(.ref o0), (.ref o1)] Z h0 (fun v h L => v = some oZ ∧ Fr n0 L ∧ h = h0) := by
  refine own_body c16_ (plainFor_of_name pn_29) (fun m => ef_29 m o0 o1) fun p e s m below meth c s₁ X0 H hnm Bret Blk e0 => ?_
  obtain ⟨hx, _, _, _, hby⟩ := id H
  have N0 := Fr.nil n0
  refine oG X0 H r29_0_0 1 #[rv o0, rv o1, oU] [(.ref o0)] ?_
  refine oLen X0 H e0 V_o0 d29_1 ?_
  refine oH X0 H r29_2_2 3 [(.ref o1), (.int (2 : Int32))] ?_
  refine oLen X0 H e0 V_o1 d29_3 ?_
  refine oCN X0 H oD0 d29_4 #[rv o0, rv o1, oU] [] rfl (teq (by decide : (2 : Int32) = (2 : Int32))).2 ?_
  refine oG X0 H r29_7_10 11 #[rv o0, rv o1, iv (0 : Int32)] [(.ref o0), oZ] ?_
  refine oLen X0 H e0 V_o0 d29_11 ?_
  refine oCN X0 H oD0 d29_12 #[rv o0, rv o1, iv (0 : Int32)] [] rfl (tlt (by decide : (0 : Int32) < (2 : Int32))).2.1 ?_
  refine oH X0 H r29_15_16 17 [oZ, (.ref o0)] ?_
  refine oBal X0 H e0 V_o0 d29_17 (.int i0) ?_
  refine oH X0 H r29_18_19 20 [oZ, (.ref o1), (.int i0)] ?_
  refine oBal X0 H e0 V_o1 d29_20 (.int i2) ?_
  refine oCY X0 H oD0 d29_21 26 #[rv o0, rv o1, iv (0 : Int32)] [] rfl (teq hp0).1 ?_
  refine oB_ (tF_ s₁ (mkF m 29 #[rv o0, rv o1, iv (1 : Int32)] [])) (fun t k => ?_) ?_
  · refine XS.iinc X0.here hx rfl (hb hby d29_26) rfl (l' := #[rv o0, rv o1, iv (1 : Int32)]) rfl ?_
    exact k
  refine oH X0 H r29_29_10 11 [(.ref o0), (.int (1 : Int32))] ?_
  refine oLen X0 H e0 V_o0 d29_11 ?_
  refine oCN X0 H oD0 d29_12 #[rv o0, rv o1, iv (1 : Int32)] [] rfl (tlt (by decide : (1 : Int32) < (2 : Int32))).2.1 ?_
  refine oH X0 H r29_15_16 17 [(.int (1 : Int32)), (.ref o0)] ?_
  refine oBal X0 H e0 V_o0 d29_17 (.int i1) ?_
  refine oH X0 H r29_18_19 20 [(.int (1 : Int32)), (.ref o1), (.int i1)] ?_
  refine oBal X0 H e0 V_o1 d29_20 (.int i3) ?_
  refine oCN X0 H oD0 d29_21 #[rv o0, rv o1, iv (1 : Int32)] [] rfl (feq hp1).1 ?_
  refine oH X0 H r29_24_24 25 [oZ] ?_
  exact own_retN X0 Blk hx (t := .boolean) Bret (by simp) (hb hby d29_25) (by
      try rw [show s₁.heap = h0 from e0]
      exact ⟨rfl, N0, rfl⟩) dE_ dE_

set_option maxRecDepth 65536 in
set_option maxHeartbeats 40000000 in
theorem rm29_22 (hw : oW_ a0 Z) (Z0 : n0 ≤ h0.size) (V_o0 : Arv Z h0 o0 k0 .byte (2 : Int32) [(.int i0), (.int i1)] oZ) (V_o1 : Arv Z h0 o1 k1 .byte (2 : Int32) [(.int i2), (.int i3)] oZ) (hp0 : ¬ (i0 = i2)) :
    oM l y5_ jdk_43_method_13_code 3 (some .boolean) ws (rM_ 0 0 0 0) #[(.ref o0), (.ref o1)] Z h0 (fun v h L => v = some oZ ∧ Fr n0 L ∧ h = h0) := by
  refine own_body c16_ (plainFor_of_name pn_29) (fun m => ef_29 m o0 o1) fun p e s m below meth c s₁ X0 H hnm Bret Blk e0 => ?_
  obtain ⟨hx, _, _, _, hby⟩ := id H
  have N0 := Fr.nil n0
  refine oG X0 H r29_0_0 1 #[rv o0, rv o1, oU] [(.ref o0)] ?_
  refine oLen X0 H e0 V_o0 d29_1 ?_
  refine oH X0 H r29_2_2 3 [(.ref o1), (.int (2 : Int32))] ?_
  refine oLen X0 H e0 V_o1 d29_3 ?_
  refine oCN X0 H oD0 d29_4 #[rv o0, rv o1, oU] [] rfl (teq (by decide : (2 : Int32) = (2 : Int32))).2 ?_
  refine oG X0 H r29_7_10 11 #[rv o0, rv o1, iv (0 : Int32)] [(.ref o0), oZ] ?_
  refine oLen X0 H e0 V_o0 d29_11 ?_
  refine oCN X0 H oD0 d29_12 #[rv o0, rv o1, iv (0 : Int32)] [] rfl (tlt (by decide : (0 : Int32) < (2 : Int32))).2.1 ?_
  refine oH X0 H r29_15_16 17 [oZ, (.ref o0)] ?_
  refine oBal X0 H e0 V_o0 d29_17 (.int i0) ?_
  refine oH X0 H r29_18_19 20 [oZ, (.ref o1), (.int i0)] ?_
  refine oBal X0 H e0 V_o1 d29_20 (.int i2) ?_
  refine oCN X0 H oD0 d29_21 #[rv o0, rv o1, iv (0 : Int32)] [] rfl (feq hp0).1 ?_
  refine oH X0 H r29_24_24 25 [oZ] ?_
  exact own_retN X0 Blk hx (t := .boolean) Bret (by simp) (hb hby d29_25) (by
      try rw [show s₁.heap = h0 from e0]
      exact ⟨rfl, N0, rfl⟩) dE_ dE_

set_option maxRecDepth 65536 in
set_option maxHeartbeats 40000000 in
theorem rm29_23 (hw : oW_ a0 Z) (Z0 : n0 ≤ h0.size) (V_o0 : Arv Z h0 o0 k0 .byte (3 : Int32) [(.int i0), (.int i1), (.int i2)] oZ) (V_o1 : Arv Z h0 o1 k1 .byte (3 : Int32) [(.int i3), (.int i4), (.int i5)] oZ) (hp0 : i0 = i3) (hp1 : i1 = i4) (hp2 : ¬ (i2 = i5)) :
    oM l y5_ jdk_43_method_13_code 3 (some .boolean) ws (rM_ 0 0 0 0) #[(.ref o0), (.ref o1)] Z h0 (fun v h L => v = some oZ ∧ Fr n0 L ∧ h = h0) := by
  refine own_body c16_ (plainFor_of_name pn_29) (fun m => ef_29 m o0 o1) fun p e s m below meth c s₁ X0 H hnm Bret Blk e0 => ?_
  obtain ⟨hx, _, _, _, hby⟩ := id H
  have N0 := Fr.nil n0
  refine oG X0 H r29_0_0 1 #[rv o0, rv o1, oU] [(.ref o0)] ?_
  refine oLen X0 H e0 V_o0 d29_1 ?_
  refine oH X0 H r29_2_2 3 [(.ref o1), (.int (3 : Int32))] ?_
  refine oLen X0 H e0 V_o1 d29_3 ?_
  refine oCN X0 H oD0 d29_4 #[rv o0, rv o1, oU] [] rfl (teq (by decide : (3 : Int32) = (3 : Int32))).2 ?_
  refine oG X0 H r29_7_10 11 #[rv o0, rv o1, iv (0 : Int32)] [(.ref o0), oZ] ?_
  refine oLen X0 H e0 V_o0 d29_11 ?_
  refine oCN X0 H oD0 d29_12 #[rv o0, rv o1, iv (0 : Int32)] [] rfl (tlt (by decide : (0 : Int32) < (3 : Int32))).2.1 ?_
  refine oH X0 H r29_15_16 17 [oZ, (.ref o0)] ?_
  refine oBal X0 H e0 V_o0 d29_17 (.int i0) ?_
  refine oH X0 H r29_18_19 20 [oZ, (.ref o1), (.int i0)] ?_
  refine oBal X0 H e0 V_o1 d29_20 (.int i3) ?_
  refine oCY X0 H oD0 d29_21 26 #[rv o0, rv o1, iv (0 : Int32)] [] rfl (teq hp0).1 ?_
  refine oB_ (tF_ s₁ (mkF m 29 #[rv o0, rv o1, iv (1 : Int32)] [])) (fun t k => ?_) ?_
  · refine XS.iinc X0.here hx rfl (hb hby d29_26) rfl (l' := #[rv o0, rv o1, iv (1 : Int32)]) rfl ?_
    exact k
  refine oH X0 H r29_29_10 11 [(.ref o0), (.int (1 : Int32))] ?_
  refine oLen X0 H e0 V_o0 d29_11 ?_
  refine oCN X0 H oD0 d29_12 #[rv o0, rv o1, iv (1 : Int32)] [] rfl (tlt (by decide : (1 : Int32) < (3 : Int32))).2.1 ?_
  refine oH X0 H r29_15_16 17 [(.int (1 : Int32)), (.ref o0)] ?_
  refine oBal X0 H e0 V_o0 d29_17 (.int i1) ?_
  refine oH X0 H r29_18_19 20 [(.int (1 : Int32)), (.ref o1), (.int i1)] ?_
  refine oBal X0 H e0 V_o1 d29_20 (.int i4) ?_
  refine oCY X0 H oD0 d29_21 26 #[rv o0, rv o1, iv (1 : Int32)] [] rfl (teq hp1).1 ?_
  refine oB_ (tF_ s₁ (mkF m 29 #[rv o0, rv o1, iv (2 : Int32)] [])) (fun t k => ?_) ?_
  · refine XS.iinc X0.here hx rfl (hb hby d29_26) rfl (l' := #[rv o0, rv o1, iv (2 : Int32)]) rfl ?_
    exact k
  refine oH X0 H r29_29_10 11 [(.ref o0), (.int (2 : Int32))] ?_
  refine oLen X0 H e0 V_o0 d29_11 ?_
  refine oCN X0 H oD0 d29_12 #[rv o0, rv o1, iv (2 : Int32)] [] rfl (tlt (by decide : (2 : Int32) < (3 : Int32))).2.1 ?_
  refine oH X0 H r29_15_16 17 [(.int (2 : Int32)), (.ref o0)] ?_
  refine oBal X0 H e0 V_o0 d29_17 (.int i2) ?_
  refine oH X0 H r29_18_19 20 [(.int (2 : Int32)), (.ref o1), (.int i2)] ?_
  refine oBal X0 H e0 V_o1 d29_20 (.int i5) ?_
  refine oCN X0 H oD0 d29_21 #[rv o0, rv o1, iv (2 : Int32)] [] rfl (feq hp2).1 ?_
  refine oH X0 H r29_24_24 25 [oZ] ?_
  exact own_retN X0 Blk hx (t := .boolean) Bret (by simp) (hb hby d29_25) (by
      try rw [show s₁.heap = h0 from e0]
      exact ⟨rfl, N0, rfl⟩) dE_ dE_

set_option maxRecDepth 65536 in
set_option maxHeartbeats 40000000 in
theorem rm29_24 (hw : oW_ a0 Z) (Z0 : n0 ≤ h0.size) (V_o0 : Arv Z h0 o0 k0 .byte (3 : Int32) [(.int i0), (.int i1), (.int i2)] oZ) (V_o1 : Arv Z h0 o1 k1 .byte (3 : Int32) [(.int i3), (.int i4), (.int i5)] oZ) (hp0 : i0 = i3) (hp1 : ¬ (i1 = i4)) :
    oM l y5_ jdk_43_method_13_code 3 (some .boolean) ws (rM_ 0 0 0 0) #[(.ref o0), (.ref o1)] Z h0 (fun v h L => v = some oZ ∧ Fr n0 L ∧ h = h0) := by
  refine own_body c16_ (plainFor_of_name pn_29) (fun m => ef_29 m o0 o1) fun p e s m below meth c s₁ X0 H hnm Bret Blk e0 => ?_
  obtain ⟨hx, _, _, _, hby⟩ := id H
  have N0 := Fr.nil n0
  refine oG X0 H r29_0_0 1 #[rv o0, rv o1, oU] [(.ref o0)] ?_
  refine oLen X0 H e0 V_o0 d29_1 ?_
  refine oH X0 H r29_2_2 3 [(.ref o1), (.int (3 : Int32))] ?_
  refine oLen X0 H e0 V_o1 d29_3 ?_
  refine oCN X0 H oD0 d29_4 #[rv o0, rv o1, oU] [] rfl (teq (by decide : (3 : Int32) = (3 : Int32))).2 ?_
  refine oG X0 H r29_7_10 11 #[rv o0, rv o1, iv (0 : Int32)] [(.ref o0), oZ] ?_
  refine oLen X0 H e0 V_o0 d29_11 ?_
  refine oCN X0 H oD0 d29_12 #[rv o0, rv o1, iv (0 : Int32)] [] rfl (tlt (by decide : (0 : Int32) < (3 : Int32))).2.1 ?_
  refine oH X0 H r29_15_16 17 [oZ, (.ref o0)] ?_
  refine oBal X0 H e0 V_o0 d29_17 (.int i0) ?_
  refine oH X0 H r29_18_19 20 [oZ, (.ref o1), (.int i0)] ?_
  refine oBal X0 H e0 V_o1 d29_20 (.int i3) ?_
  refine oCY X0 H oD0 d29_21 26 #[rv o0, rv o1, iv (0 : Int32)] [] rfl (teq hp0).1 ?_
  refine oB_ (tF_ s₁ (mkF m 29 #[rv o0, rv o1, iv (1 : Int32)] [])) (fun t k => ?_) ?_
  · refine XS.iinc X0.here hx rfl (hb hby d29_26) rfl (l' := #[rv o0, rv o1, iv (1 : Int32)]) rfl ?_
    exact k
  refine oH X0 H r29_29_10 11 [(.ref o0), (.int (1 : Int32))] ?_
  refine oLen X0 H e0 V_o0 d29_11 ?_
  refine oCN X0 H oD0 d29_12 #[rv o0, rv o1, iv (1 : Int32)] [] rfl (tlt (by decide : (1 : Int32) < (3 : Int32))).2.1 ?_
  refine oH X0 H r29_15_16 17 [(.int (1 : Int32)), (.ref o0)] ?_
  refine oBal X0 H e0 V_o0 d29_17 (.int i1) ?_
  refine oH X0 H r29_18_19 20 [(.int (1 : Int32)), (.ref o1), (.int i1)] ?_
  refine oBal X0 H e0 V_o1 d29_20 (.int i4) ?_
  refine oCN X0 H oD0 d29_21 #[rv o0, rv o1, iv (1 : Int32)] [] rfl (feq hp1).1 ?_
  refine oH X0 H r29_24_24 25 [oZ] ?_
  exact own_retN X0 Blk hx (t := .boolean) Bret (by simp) (hb hby d29_25) (by
      try rw [show s₁.heap = h0 from e0]
      exact ⟨rfl, N0, rfl⟩) dE_ dE_

set_option maxRecDepth 65536 in
set_option maxHeartbeats 40000000 in
theorem rm29_25 (hw : oW_ a0 Z) (Z0 : n0 ≤ h0.size) (V_o0 : Arv Z h0 o0 k0 .byte (3 : Int32) [(.int i0), (.int i1), (.int i2)] oZ) (V_o1 : Arv Z h0 o1 k1 .byte (3 : Int32) [(.int i3), (.int i4), (.int i5)] oZ) (hp0 : ¬ (i0 = i3)) :
    oM l y5_ jdk_43_method_13_code 3 (some .boolean) ws (rM_ 0 0 0 0) #[(.ref o0), (.ref o1)] Z h0 (fun v h L => v = some oZ ∧ Fr n0 L ∧ h = h0) := by
  refine own_body c16_ (plainFor_of_name pn_29) (fun m => ef_29 m o0 o1) fun p e s m below meth c s₁ X0 H hnm Bret Blk e0 => ?_
  obtain ⟨hx, _, _, _, hby⟩ := id H
  have N0 := Fr.nil n0
  refine oG X0 H r29_0_0 1 #[rv o0, rv o1, oU] [(.ref o0)] ?_
  refine oLen X0 H e0 V_o0 d29_1 ?_
  refine oH X0 H r29_2_2 3 [(.ref o1), (.int (3 : Int32))] ?_
  refine oLen X0 H e0 V_o1 d29_3 ?_
  refine oCN X0 H oD0 d29_4 #[rv o0, rv o1, oU] [] rfl (teq (by decide : (3 : Int32) = (3 : Int32))).2 ?_
  refine oG X0 H r29_7_10 11 #[rv o0, rv o1, iv (0 : Int32)] [(.ref o0), oZ] ?_
  refine oLen X0 H e0 V_o0 d29_11 ?_
  refine oCN X0 H oD0 d29_12 #[rv o0, rv o1, iv (0 : Int32)] [] rfl (tlt (by decide : (0 : Int32) < (3 : Int32))).2.1 ?_
  refine oH X0 H r29_15_16 17 [oZ, (.ref o0)] ?_
  refine oBal X0 H e0 V_o0 d29_17 (.int i0) ?_
  refine oH X0 H r29_18_19 20 [oZ, (.ref o1), (.int i0)] ?_
  refine oBal X0 H e0 V_o1 d29_20 (.int i3) ?_
  refine oCN X0 H oD0 d29_21 #[rv o0, rv o1, iv (0 : Int32)] [] rfl (feq hp0).1 ?_
  refine oH X0 H r29_24_24 25 [oZ] ?_
  exact own_retN X0 Blk hx (t := .boolean) Bret (by simp) (hb hby d29_25) (by
      try rw [show s₁.heap = h0 from e0]
      exact ⟨rfl, N0, rfl⟩) dE_ dE_

theorem d28_54 : dC8_ 54 (.iconst 0, 1) := by decide +kernel
theorem r28_54_54 : oDec jdk_42_method_66_code [(54, .iconst 0, 1)] := by decide +kernel
set_option maxRecDepth 65536 in
set_option maxHeartbeats 40000000 in
theorem rm28_ne (hw : oW_ a0 Z) (Z0 : n0 ≤ h0.size) (OZ : Old Z n0 h0) (S_COMPACT_STRINGS : Sta Z Z.heap c2_ c13_ "Z" (.int cs)) (hcs : ¬ (cs = (0 : Int32))) (T_o0 : own_Str Z h0 o0 l0) (T_o1 : own_Str Z h0 o1 l1) (ne_o0_o1 : o0 ≠ o1) (heq : ¬ (l0 = l1)) :
    oM l y17_ jdk_42_method_66_code 3 (some .boolean) ws (rM_ 1 0 0 14) #[(.ref o0), (.ref o1)] Z h0 (fun v h L => v = some oZ ∧ Fr n0 L ∧ h = h0) := by
  refine own_body c2_ (plainFor_of_name pn_28) (fun m => ef_28 m o0 o1) fun p e s m below meth c s₁ X0 H hnm Bret Blk e0 => ?_
  obtain ⟨hx, hZ, hown, _, hby⟩ := id H
  have N0 := Fr.nil n0
  obtain ⟨t0, _, Nt0, _, F_coder_o0, F_value_o0, V_t0, S_0⟩ := T_o0
  obtain ⟨t1, _, Nt1, E_o1, F_coder_o1, F_value_o1, V_t1, S_1⟩ := T_o1
  by_cases hNN : Nt0 = Nt1
  · skip
    rcases S_0 with ⟨rfl, rfl⟩ | ⟨x0, rfl, rfl⟩ | ⟨x0, x1, rfl, rfl⟩ | ⟨x0, x1, x2, rfl, rfl⟩
    · rcases S_1 with ⟨rfl, rfl⟩ | ⟨y0, rfl, rfl⟩ | ⟨y0, y1, rfl, rfl⟩ | ⟨y0, y1, y2, rfl, rfl⟩
      · exact absurd rfl heq
      · exact absurd hNN dE_
      · exact absurd hNN dE_
      · exact absurd hNN dE_
    · rcases S_1 with ⟨rfl, rfl⟩ | ⟨y0, rfl, rfl⟩ | ⟨y0, y1, rfl, rfl⟩ | ⟨y0, y1, y2, rfl, rfl⟩
      · exact absurd hNN dE_
      · skip
        by_cases hb0 : x0 = y0
        · skip
          exact absurd (by simp only [hb0]) heq
        · skip
          refine oG X0 H r28_0_1 2 #[rv o0, rv o1, oU] [(.ref o1), (.ref o0)] ?_
          refine own_by (fun t k => Jvm.RoadKit.acmp (g := (mkF m 2 #[rv o0, rv o1, oU] [(.ref o1), (.ref o0)])) X0 hx rfl rfl rfl (pc0 := 2) (pc' := 7) (same := false) rfl (hb hby d28_2) rfl (decide_eq_false fun q => ne_o0_o1 (Value.ref.inj q)) dE_ dE_ k) ?_
          refine oG X0 H r28_7_7 8 #[rv o0, rv o1, oU] [(.ref o1)] ?_
          refine own_c1 (instY X0 hx hZ hown (hV hw 199) e0 (Ins.self E_o1) rfl rfl (hb hby d28_8)) fun T1 X1 e1 => ?_
          refine oIN X1 H oD0 d28_11 #[rv o0, rv o1, oU] [] rfl ((if0 _ _).trans (feq (by decide : ¬ ((1 : Int32) = (0 : Int32)))).1) ?_
          refine oH X1 H r28_14_14 15 [(.ref o1)] ?_
          refine oKst X1 H (hV hw 199) e1 (Ins.self E_o1) d28_15 fun T2 X2 e2 => ?_
          refine oG X2 H r28_18_18 19 #[rv o0, rv o1, rv o1] [] ?_
          refine oGS X2 H (host := "") (Or.inl (hV hw 29)) Via.refl e2 (S_COMPACT_STRINGS.ext OZ.2) d28_19 fun T3 X3 e3 => ?_
          refine oIN X3 H oD0 d28_22 #[rv o0, rv o1, rv o1] [] rfl ((if0 _ _).trans (feq hcs).1) ?_
          refine oH X3 H r28_25_25 26 [(.ref o0)] ?_
          refine oGf X3 H (hV hw 25) e3 F_coder_o0 d28_26 fun T4 X4 e4 => ?_
          refine oG X4 H r28_29_29 30 #[rv o0, rv o1, rv o1] [(.ref o1), oZ] ?_
          refine oGf X4 H (hV hw 25) e4 F_coder_o1 d28_30 fun T5 X5 e5 => ?_
          refine oCN X5 H oD0 d28_33 #[rv o0, rv o1, rv o1] [] rfl (teq (by decide : (0 : Int32) = (0 : Int32))).2 ?_
          refine oH X5 H r28_36_36 37 [(.ref o0)] ?_
          refine oGf X5 H (hV hw 24) e5 F_value_o0 d28_37 fun T6 X6 e6 => ?_
          refine oG X6 H r28_40_40 41 #[rv o0, rv o1, rv o1] [(.ref o1), (.ref t0)] ?_
          refine oGf X6 H (hV hw 24) e6 F_value_o1 d28_41 fun T7 X7 e7 => ?_
          refine ocS X7 H (wb5_ hw) (rm29_20 hw Z0 V_t0 V_t1 hb0) e7 0 [(.ref t0), (.ref t1)] [] pd_22 d28_44 fun T9 _ _ X9 hQ9 => ?_
          obtain ⟨rfl, N9, e9⟩ := hQ9
          replace N0 := Fr.app N0 N9
          refine oIY X9 H oD0 d28_47 54 #[rv o0, rv o1, rv o1] [] rfl ((if0 _ _).trans (teq (by decide : (0 : Int32) = (0 : Int32))).1) ?_
          refine oH X9 H r28_54_54 55 [oZ] ?_
          exact own_retN X9 Blk hx (t := .boolean) Bret (by simp) (hb hby d28_55) (by
              try rw [show T9.heap = h0 from e9]
              exact ⟨rfl, N0, rfl⟩) dE_ dE_
      · exact absurd hNN dE_
      · exact absurd hNN dE_
    · rcases S_1 with ⟨rfl, rfl⟩ | ⟨y0, rfl, rfl⟩ | ⟨y0, y1, rfl, rfl⟩ | ⟨y0, y1, y2, rfl, rfl⟩
      · exact absurd hNN dE_
      · exact absurd hNN dE_
      · skip
        by_cases hb0 : x0 = y0
        · skip
          by_cases hb1 : x1 = y1
          · skip
            exact absurd (by simp only [hb0, hb1]) heq
          · skip
            refine oG X0 H r28_0_1 2 #[rv o0, rv o1, oU] [(.ref o1), (.ref o0)] ?_
            refine own_by (fun t k => Jvm.RoadKit.acmp (g := (mkF m 2 #[rv o0, rv o1, oU] [(.ref o1), (.ref o0)])) X0 hx rfl rfl rfl (pc0 := 2) (pc' := 7) (same := false) rfl (hb hby d28_2) rfl (decide_eq_false fun q => ne_o0_o1 (Value.ref.inj q)) dE_ dE_ k) ?_
            refine oG X0 H r28_7_7 8 #[rv o0, rv o1, oU] [(.ref o1)] ?_
            refine own_c1 (instY X0 hx hZ hown (hV hw 199) e0 (Ins.self E_o1) rfl rfl (hb hby d28_8)) fun T10 X10 e10 => ?_
            refine oIN X10 H oD0 d28_11 #[rv o0, rv o1, oU] [] rfl ((if0 _ _).trans (feq (by decide : ¬ ((1 : Int32) = (0 : Int32)))).1) ?_
            refine oH X10 H r28_14_14 15 [(.ref o1)] ?_
            refine oKst X10 H (hV hw 199) e10 (Ins.self E_o1) d28_15 fun T11 X11 e11 => ?_
            refine oG X11 H r28_18_18 19 #[rv o0, rv o1, rv o1] [] ?_
            refine oGS X11 H (host := "") (Or.inl (hV hw 29)) Via.refl e11 (S_COMPACT_STRINGS.ext OZ.2) d28_19 fun T12 X12 e12 => ?_
            refine oIN X12 H oD0 d28_22 #[rv o0, rv o1, rv o1] [] rfl ((if0 _ _).trans (feq hcs).1) ?_
            refine oH X12 H r28_25_25 26 [(.ref o0)] ?_
            refine oGf X12 H (hV hw 25) e12 F_coder_o0 d28_26 fun T13 X13 e13 => ?_
            refine oG X13 H r28_29_29 30 #[rv o0, rv o1, rv o1] [(.ref o1), oZ] ?_
            refine oGf X13 H (hV hw 25) e13 F_coder_o1 d28_30 fun T14 X14 e14 => ?_
            refine oCN X14 H oD0 d28_33 #[rv o0, rv o1, rv o1] [] rfl (teq (by decide : (0 : Int32) = (0 : Int32))).2 ?_
            refine oH X14 H r28_36_36 37 [(.ref o0)] ?_
            refine oGf X14 H (hV hw 24) e14 F_value_o0 d28_37 fun T15 X15 e15 => ?_
            refine oG X15 H r28_40_40 41 #[rv o0, rv o1, rv o1] [(.ref o1), (.ref t0)] ?_
            refine oGf X15 H (hV hw 24) e15 F_value_o1 d28_41 fun T16 X16 e16 => ?_
            refine ocS X16 H (wb5_ hw) (rm29_21 hw Z0 V_t0 V_t1 hb0 hb1) e16 0 [(.ref t0), (.ref t1)] [] pd_22 d28_44 fun T18 _ _ X18 hQ18 => ?_
            obtain ⟨rfl, N18, e18⟩ := hQ18
            replace N0 := Fr.app N0 N18
            refine oIY X18 H oD0 d28_47 54 #[rv o0, rv o1, rv o1] [] rfl ((if0 _ _).trans (teq (by decide : (0 : Int32) = (0 : Int32))).1) ?_
            refine oH X18 H r28_54_54 55 [oZ] ?_
            exact own_retN X18 Blk hx (t := .boolean) Bret (by simp) (hb hby d28_55) (by
                try rw [show T18.heap = h0 from e18]
                exact ⟨rfl, N0, rfl⟩) dE_ dE_
        · skip
          refine oG X0 H r28_0_1 2 #[rv o0, rv o1, oU] [(.ref o1), (.ref o0)] ?_
          refine own_by (fun t k => Jvm.RoadKit.acmp (g := (mkF m 2 #[rv o0, rv o1, oU] [(.ref o1), (.ref o0)])) X0 hx rfl rfl rfl (pc0 := 2) (pc' := 7) (same := false) rfl (hb hby d28_2) rfl (decide_eq_false fun q => ne_o0_o1 (Value.ref.inj q)) dE_ dE_ k) ?_
          refine oG X0 H r28_7_7 8 #[rv o0, rv o1, oU] [(.ref o1)] ?_
          refine own_c1 (instY X0 hx hZ hown (hV hw 199) e0 (Ins.self E_o1) rfl rfl (hb hby d28_8)) fun T19 X19 e19 => ?_
          refine oIN X19 H oD0 d28_11 #[rv o0, rv o1, oU] [] rfl ((if0 _ _).trans (feq (by decide : ¬ ((1 : Int32) = (0 : Int32)))).1) ?_
          refine oH X19 H r28_14_14 15 [(.ref o1)] ?_
          refine oKst X19 H (hV hw 199) e19 (Ins.self E_o1) d28_15 fun T20 X20 e20 => ?_
          refine oG X20 H r28_18_18 19 #[rv o0, rv o1, rv o1] [] ?_
          refine oGS X20 H (host := "") (Or.inl (hV hw 29)) Via.refl e20 (S_COMPACT_STRINGS.ext OZ.2) d28_19 fun T21 X21 e21 => ?_
          refine oIN X21 H oD0 d28_22 #[rv o0, rv o1, rv o1] [] rfl ((if0 _ _).trans (feq hcs).1) ?_
          refine oH X21 H r28_25_25 26 [(.ref o0)] ?_
          refine oGf X21 H (hV hw 25) e21 F_coder_o0 d28_26 fun T22 X22 e22 => ?_
          refine oG X22 H r28_29_29 30 #[rv o0, rv o1, rv o1] [(.ref o1), oZ] ?_
          refine oGf X22 H (hV hw 25) e22 F_coder_o1 d28_30 fun T23 X23 e23 => ?_
          refine oCN X23 H oD0 d28_33 #[rv o0, rv o1, rv o1] [] rfl (teq (by decide : (0 : Int32) = (0 : Int32))).2 ?_
          refine oH X23 H r28_36_36 37 [(.ref o0)] ?_
          refine oGf X23 H (hV hw 24) e23 F_value_o0 d28_37 fun T24 X24 e24 => ?_
          refine oG X24 H r28_40_40 41 #[rv o0, rv o1, rv o1] [(.ref o1), (.ref t0)] ?_
          refine oGf X24 H (hV hw 24) e24 F_value_o1 d28_41 fun T25 X25 e25 => ?_
          refine ocS X25 H (wb5_ hw) (rm29_22 hw Z0 V_t0 V_t1 hb0) e25 0 [(.ref t0), (.ref t1)] [] pd_22 d28_44 fun T27 _ _ X27 hQ27 => ?_
          obtain ⟨rfl, N27, e27⟩ := hQ27
          replace N0 := Fr.app N0 N27
          refine oIY X27 H oD0 d28_47 54 #[rv o0, rv o1, rv o1] [] rfl ((if0 _ _).trans (teq (by decide : (0 : Int32) = (0 : Int32))).1) ?_
          refine oH X27 H r28_54_54 55 [oZ] ?_
          exact own_retN X27 Blk hx (t := .boolean) Bret (by simp) (hb hby d28_55) (by
              try rw [show T27.heap = h0 from e27]
              exact ⟨rfl, N0, rfl⟩) dE_ dE_
      · exact absurd hNN dE_
    · rcases S_1 with ⟨rfl, rfl⟩ | ⟨y0, rfl, rfl⟩ | ⟨y0, y1, rfl, rfl⟩ | ⟨y0, y1, y2, rfl, rfl⟩
      · exact absurd hNN dE_
      · exact absurd hNN dE_
      · exact absurd hNN dE_
      · skip
        by_cases hb0 : x0 = y0
        · skip
          by_cases hb1 : x1 = y1
          · skip
            by_cases hb2 : x2 = y2
            · skip
              exact absurd (by simp only [hb0, hb1, hb2]) heq
            · skip
              refine oG X0 H r28_0_1 2 #[rv o0, rv o1, oU] [(.ref o1), (.ref o0)] ?_
              refine own_by (fun t k => Jvm.RoadKit.acmp (g := (mkF m 2 #[rv o0, rv o1, oU] [(.ref o1), (.ref o0)])) X0 hx rfl rfl rfl (pc0 := 2) (pc' := 7) (same := false) rfl (hb hby d28_2) rfl (decide_eq_false fun q => ne_o0_o1 (Value.ref.inj q)) dE_ dE_ k) ?_
              refine oG X0 H r28_7_7 8 #[rv o0, rv o1, oU] [(.ref o1)] ?_
              refine own_c1 (instY X0 hx hZ hown (hV hw 199) e0 (Ins.self E_o1) rfl rfl (hb hby d28_8)) fun T28 X28 e28 => ?_
              refine oIN X28 H oD0 d28_11 #[rv o0, rv o1, oU] [] rfl ((if0 _ _).trans (feq (by decide : ¬ ((1 : Int32) = (0 : Int32)))).1) ?_
              refine oH X28 H r28_14_14 15 [(.ref o1)] ?_
              refine oKst X28 H (hV hw 199) e28 (Ins.self E_o1) d28_15 fun T29 X29 e29 => ?_
              refine oG X29 H r28_18_18 19 #[rv o0, rv o1, rv o1] [] ?_
              refine oGS X29 H (host := "") (Or.inl (hV hw 29)) Via.refl e29 (S_COMPACT_STRINGS.ext OZ.2) d28_19 fun T30 X30 e30 => ?_
              refine oIN X30 H oD0 d28_22 #[rv o0, rv o1, rv o1] [] rfl ((if0 _ _).trans (feq hcs).1) ?_
              refine oH X30 H r28_25_25 26 [(.ref o0)] ?_
              refine oGf X30 H (hV hw 25) e30 F_coder_o0 d28_26 fun T31 X31 e31 => ?_
              refine oG X31 H r28_29_29 30 #[rv o0, rv o1, rv o1] [(.ref o1), oZ] ?_
              refine oGf X31 H (hV hw 25) e31 F_coder_o1 d28_30 fun T32 X32 e32 => ?_
              refine oCN X32 H oD0 d28_33 #[rv o0, rv o1, rv o1] [] rfl (teq (by decide : (0 : Int32) = (0 : Int32))).2 ?_
              refine oH X32 H r28_36_36 37 [(.ref o0)] ?_
              refine oGf X32 H (hV hw 24) e32 F_value_o0 d28_37 fun T33 X33 e33 => ?_
              refine oG X33 H r28_40_40 41 #[rv o0, rv o1, rv o1] [(.ref o1), (.ref t0)] ?_
              refine oGf X33 H (hV hw 24) e33 F_value_o1 d28_41 fun T34 X34 e34 => ?_
              refine ocS X34 H (wb5_ hw) (rm29_23 hw Z0 V_t0 V_t1 hb0 hb1 hb2) e34 0 [(.ref t0), (.ref t1)] [] pd_22 d28_44 fun T36 _ _ X36 hQ36 => ?_
              obtain ⟨rfl, N36, e36⟩ := hQ36
              replace N0 := Fr.app N0 N36
              refine oIY X36 H oD0 d28_47 54 #[rv o0, rv o1, rv o1] [] rfl ((if0 _ _).trans (teq (by decide : (0 : Int32) = (0 : Int32))).1) ?_
              refine oH X36 H r28_54_54 55 [oZ] ?_
              exact own_retN X36 Blk hx (t := .boolean) Bret (by simp) (hb hby d28_55) (by
                  try rw [show T36.heap = h0 from e36]
                  exact ⟨rfl, N0, rfl⟩) dE_ dE_
          · skip
            refine oG X0 H r28_0_1 2 #[rv o0, rv o1, oU] [(.ref o1), (.ref o0)] ?_
            refine own_by (fun t k => Jvm.RoadKit.acmp (g := (mkF m 2 #[rv o0, rv o1, oU] [(.ref o1), (.ref o0)])) X0 hx rfl rfl rfl (pc0 := 2) (pc' := 7) (same := false) rfl (hb hby d28_2) rfl (decide_eq_false fun q => ne_o0_o1 (Value.ref.inj q)) dE_ dE_ k) ?_
            refine oG X0 H r28_7_7 8 #[rv o0, rv o1, oU] [(.ref o1)] ?_
            refine own_c1 (instY X0 hx hZ hown (hV hw 199) e0 (Ins.self E_o1) rfl rfl (hb hby d28_8)) fun T37 X37 e37 => ?_
            refine oIN X37 H oD0 d28_11 #[rv o0, rv o1, oU] [] rfl ((if0 _ _).trans (feq (by decide : ¬ ((1 : Int32) = (0 : Int32)))).1) ?_
            refine oH X37 H r28_14_14 15 [(.ref o1)] ?_
            refine oKst X37 H (hV hw 199) e37 (Ins.self E_o1) d28_15 fun T38 X38 e38 => ?_
            refine oG X38 H r28_18_18 19 #[rv o0, rv o1, rv o1] [] ?_
            refine oGS X38 H (host := "") (Or.inl (hV hw 29)) Via.refl e38 (S_COMPACT_STRINGS.ext OZ.2) d28_19 fun T39 X39 e39 => ?_
            refine oIN X39 H oD0 d28_22 #[rv o0, rv o1, rv o1] [] rfl ((if0 _ _).trans (feq hcs).1) ?_
            refine oH X39 H r28_25_25 26 [(.ref o0)] ?_
            refine oGf X39 H (hV hw 25) e39 F_coder_o0 d28_26 fun T40 X40 e40 => ?_
            refine oG X40 H r28_29_29 30 #[rv o0, rv o1, rv o1] [(.ref o1), oZ] ?_
            refine oGf X40 H (hV hw 25) e40 F_coder_o1 d28_30 fun T41 X41 e41 => ?_
            refine oCN X41 H oD0 d28_33 #[rv o0, rv o1, rv o1] [] rfl (teq (by decide : (0 : Int32) = (0 : Int32))).2 ?_
            refine oH X41 H r28_36_36 37 [(.ref o0)] ?_
            refine oGf X41 H (hV hw 24) e41 F_value_o0 d28_37 fun T42 X42 e42 => ?_
            refine oG X42 H r28_40_40 41 #[rv o0, rv o1, rv o1] [(.ref o1), (.ref t0)] ?_
            refine oGf X42 H (hV hw 24) e42 F_value_o1 d28_41 fun T43 X43 e43 => ?_
            refine ocS X43 H (wb5_ hw) (rm29_24 hw Z0 V_t0 V_t1 hb0 hb1) e43 0 [(.ref t0), (.ref t1)] [] pd_22 d28_44 fun T45 _ _ X45 hQ45 => ?_
            obtain ⟨rfl, N45, e45⟩ := hQ45
            replace N0 := Fr.app N0 N45
            refine oIY X45 H oD0 d28_47 54 #[rv o0, rv o1, rv o1] [] rfl ((if0 _ _).trans (teq (by decide : (0 : Int32) = (0 : Int32))).1) ?_
            refine oH X45 H r28_54_54 55 [oZ] ?_
            exact own_retN X45 Blk hx (t := .boolean) Bret (by simp) (hb hby d28_55) (by
                try rw [show T45.heap = h0 from e45]
                exact ⟨rfl, N0, rfl⟩) dE_ dE_
        · skip
          refine oG X0 H r28_0_1 2 #[rv o0, rv o1, oU] [(.ref o1), (.ref o0)] ?_
          refine own_by (fun t k => Jvm.RoadKit.acmp (g := (mkF m 2 #[rv o0, rv o1, oU] [(.ref o1), (.ref o0)])) X0 hx rfl rfl rfl (pc0 := 2) (pc' := 7) (same := false) rfl (hb hby d28_2) rfl (decide_eq_false fun q => ne_o0_o1 (Value.ref.inj q)) dE_ dE_ k) ?_
          refine oG X0 H r28_7_7 8 #[rv o0, rv o1, oU] [(.ref o1)] ?_
          refine own_c1 (instY X0 hx hZ hown (hV hw 199) e0 (Ins.self E_o1) rfl rfl (hb hby d28_8)) fun T46 X46 e46 => ?_
          refine oIN X46 H oD0 d28_11 #[rv o0, rv o1, oU] [] rfl ((if0 _ _).trans (feq (by decide : ¬ ((1 : Int32) = (0 : Int32)))).1) ?_
          refine oH X46 H r28_14_14 15 [(.ref o1)] ?_
          refine oKst X46 H (hV hw 199) e46 (Ins.self E_o1) d28_15 fun T47 X47 e47 => ?_
          refine oG X47 H r28_18_18 19 #[rv o0, rv o1, rv o1] [] ?_
          refine oGS X47 H (host := "") (Or.inl (hV hw 29)) Via.refl e47 (S_COMPACT_STRINGS.ext OZ.2) d28_19 fun T48 X48 e48 => ?_
          refine oIN X48 H oD0 d28_22 #[rv o0, rv o1, rv o1] [] rfl ((if0 _ _).trans (feq hcs).1) ?_
          refine oH X48 H r28_25_25 26 [(.ref o0)] ?_
          refine oGf X48 H (hV hw 25) e48 F_coder_o0 d28_26 fun T49 X49 e49 => ?_
          refine oG X49 H r28_29_29 30 #[rv o0, rv o1, rv o1] [(.ref o1), oZ] ?_
          refine oGf X49 H (hV hw 25) e49 F_coder_o1 d28_30 fun T50 X50 e50 => ?_
          refine oCN X50 H oD0 d28_33 #[rv o0, rv o1, rv o1] [] rfl (teq (by decide : (0 : Int32) = (0 : Int32))).2 ?_
          refine oH X50 H r28_36_36 37 [(.ref o0)] ?_
          refine oGf X50 H (hV hw 24) e50 F_value_o0 d28_37 fun T51 X51 e51 => ?_
          refine oG X51 H r28_40_40 41 #[rv o0, rv o1, rv o1] [(.ref o1), (.ref t0)] ?_
          refine oGf X51 H (hV hw 24) e51 F_value_o1 d28_41 fun T52 X52 e52 => ?_
          refine ocS X52 H (wb5_ hw) (rm29_25 hw Z0 V_t0 V_t1 hb0) e52 0 [(.ref t0), (.ref t1)] [] pd_22 d28_44 fun T54 _ _ X54 hQ54 => ?_
          obtain ⟨rfl, N54, e54⟩ := hQ54
          replace N0 := Fr.app N0 N54
          refine oIY X54 H oD0 d28_47 54 #[rv o0, rv o1, rv o1] [] rfl ((if0 _ _).trans (teq (by decide : (0 : Int32) = (0 : Int32))).1) ?_
          refine oH X54 H r28_54_54 55 [oZ] ?_
          exact own_retN X54 Blk hx (t := .boolean) Bret (by simp) (hb hby d28_55) (by
              try rw [show T54.heap = h0 from e54]
              exact ⟨rfl, N0, rfl⟩) dE_ dE_
  · skip
    refine oG X0 H r28_0_1 2 #[rv o0, rv o1, oU] [(.ref o1), (.ref o0)] ?_
    refine own_by (fun t k => Jvm.RoadKit.acmp (g := (mkF m 2 #[rv o0, rv o1, oU] [(.ref o1), (.ref o0)])) X0 hx rfl rfl rfl (pc0 := 2) (pc' := 7) (same := false) rfl (hb hby d28_2) rfl (decide_eq_false fun q => ne_o0_o1 (Value.ref.inj q)) dE_ dE_ k) ?_
    refine oG X0 H r28_7_7 8 #[rv o0, rv o1, oU] [(.ref o1)] ?_
    refine own_c1 (instY X0 hx hZ hown (hV hw 199) e0 (Ins.self E_o1) rfl rfl (hb hby d28_8)) fun T55 X55 e55 => ?_
    refine oIN X55 H oD0 d28_11 #[rv o0, rv o1, oU] [] rfl ((if0 _ _).trans (feq (by decide : ¬ ((1 : Int32) = (0 : Int32)))).1) ?_
    refine oH X55 H r28_14_14 15 [(.ref o1)] ?_
    refine oKst X55 H (hV hw 199) e55 (Ins.self E_o1) d28_15 fun T56 X56 e56 => ?_
    refine oG X56 H r28_18_18 19 #[rv o0, rv o1, rv o1] [] ?_
    refine oGS X56 H (host := "") (Or.inl (hV hw 29)) Via.refl e56 (S_COMPACT_STRINGS.ext OZ.2) d28_19 fun T57 X57 e57 => ?_
    refine oIN X57 H oD0 d28_22 #[rv o0, rv o1, rv o1] [] rfl ((if0 _ _).trans (feq hcs).1) ?_
    refine oH X57 H r28_25_25 26 [(.ref o0)] ?_
    refine oGf X57 H (hV hw 25) e57 F_coder_o0 d28_26 fun T58 X58 e58 => ?_
    refine oG X58 H r28_29_29 30 #[rv o0, rv o1, rv o1] [(.ref o1), oZ] ?_
    refine oGf X58 H (hV hw 25) e58 F_coder_o1 d28_30 fun T59 X59 e59 => ?_
    refine oCN X59 H oD0 d28_33 #[rv o0, rv o1, rv o1] [] rfl (teq (by decide : (0 : Int32) = (0 : Int32))).2 ?_
    refine oH X59 H r28_36_36 37 [(.ref o0)] ?_
    refine oGf X59 H (hV hw 24) e59 F_value_o0 d28_37 fun T60 X60 e60 => ?_
    refine oG X60 H r28_40_40 41 #[rv o0, rv o1, rv o1] [(.ref o1), (.ref t0)] ?_
    refine oGf X60 H (hV hw 24) e60 F_value_o1 d28_41 fun T61 X61 e61 => ?_
    refine ocS X61 H (wb5_ hw) (rm29_len hw Z0 V_t0 V_t1 hNN) e61 0 [(.ref t0), (.ref t1)] [] pd_22 d28_44 fun T63 _ _ X63 hQ63 => ?_
    obtain ⟨rfl, N63, e63⟩ := hQ63
    replace N0 := Fr.app N0 N63
    refine oIY X63 H oD0 d28_47 54 #[rv o0, rv o1, rv o1] [] rfl ((if0 _ _).trans (teq (by decide : (0 : Int32) = (0 : Int32))).1) ?_
    refine oH X63 H r28_54_54 55 [oZ] ?_
    exact own_retN X63 Blk hx (t := .boolean) Bret (by simp) (hb hby d28_55) (by
        try rw [show T63.heap = h0 from e63]
        exact ⟨rfl, N0, rfl⟩) dE_ dE_

theorem own_arr {t : Term} {args : Array Value} {s : State} {ty : FieldType} {n : Int32} {a : Addr} (ev : t.eval args s none [] s = some (.ref a)) (hx : (Jvm.Cond.arrayOf t ty).value args s none s [] = some true) (hl : (Jvm.Cond.eq (.length t) (.int n)).value args s none s [] = some true) :
    ∃ cl, Arr s s.heap a cl ty ∧ cl.slots.size < 2 ^ 31 ∧ cl.slots.size.toInt32 = n := by
  obtain ⟨cl, A⟩ := Arr.start ev hx
  have h1 : (Term.length t).eval args s none [] s = some (.int n) := Jvm.Free.NT.SwA.eq_int (Cond.before_iff.mpr hl)
  refine ⟨cl, A, ?_⟩
  cases hat : s.arrayAt? a with
  | none => simp [Term.eval, ev, hat] at h1
  | some c' =>
    have hc := (State.arrayAt?_spec hat).1
    cases A.1.symm.trans hc
    simp only [Term.eval, ev, hat, Option.bind_eq_bind, Option.bind_some] at h1
    split at h1
    · rename_i hlt
      exact ⟨hlt, by simpa using h1⟩
    · simp at h1
theorem own_elem {t : Term} {args : Array Value} {s : State} {ty : FieldType} {a w : Addr} {cl : Cell} {k : Int32} (ev : t.eval args s none [] s = some (.ref a)) (A : Arr s s.heap a cl ty) (h : (Term.elem t (.int k)).eval args s none [] s = some (.ref w)) : cl.slots[k.toNatClampNeg]? = some (.ref w) := (elem_in h ev rfl A.1).2
theorem own_eqR {t u : Term} {args : Array Value} {s : State} {w : Addr} (h : (Jvm.Cond.eq t u).value args s none s [] = some true) (hu : u.eval args s none [] s = some (.ref w)) : t.eval args s none [] s = some (.ref w) := by
  obtain ⟨x, y, e1, e2, k1, k2⟩ := cmp_v (Or.inl h)
  cases hu.symm.trans e2
  have hx : x.isRef = true := by cases x <;> simp [Kin, Value.isRef] at k1 k2 ⊢
  have := gotT (eq_R e1 hu hx rfl) h
  rw [e1, this]

abbrev own_ct : Term := .static c24_ "cache" c31_
theorem own_el {args : Array Value} {s : State} {cc : Addr} {cl : Cell} (ev : own_ct.eval args s none [] s = some (.ref cc)) (A : Arr s s.heap cc cl (.object c8_)) {c : Jvm.Cond} (hall : (Jvm.Cond.all own_ct (.and (.exactly (.elem own_ct (.index 0)) c8_) c)).value args s none s [] = some true) (i : Nat) (hi : i < cl.slots.size) (hj : (Int32.ofNat i).toNatClampNeg = i) :
    ∃ w, cl.slots[i]? = some (.ref w) ∧ Exa s s.heap w c8_ := by
  cases hat : s.arrayAt? cc with
  | none => simp only [Cond.value, ev, hat] at hall; cases hall
  | some c' =>
    have hc := (State.arrayAt?_spec hat).1
    cases A.1.symm.trans hc
    have h1 := Cond.all_elim ev hat hall i hi
    have h2 := (and_e h1).1
    obtain ⟨a', c', cell, k, e1, e2, e3, e4, e5, rfl, e7⟩ := Cond.exactly_spec (beq_iff_eq.mpr h2 : (Jvm.Cond.exactly (.elem own_ct (.index 0)) c8_).holds args s none s [i] = true)
    refine ⟨a', ?_, ⟨cell, k, e3, e2, e4, e5, e7⟩⟩
    obtain ⟨x, j, cell', f1, f2, f3, f4, f5⟩ := Term.elem_spec e1
    have ev' : own_ct.eval args s none [i] s = some (.ref cc) := ev
    cases ev'.symm.trans f1
    cases hat.symm.trans f3
    have f2' : j = Int32.ofNat i := by
      simp [Term.eval] at f2
      exact f2.symm
    subst f2'
    rw [hj] at f5
    exact f5
def own_IC (Z : State) (cc w0 w1 w2 : Addr) : Prop := ∃ cl, Arr Z Z.heap cc cl (.object c8_) ∧ cl.slots.size = 256 ∧ cl.slots[128]? = some (.ref w0) ∧ cl.slots[129]? = some (.ref w1) ∧ cl.slots[130]? = some (.ref w2)
theorem own_ic {args : Array Value} {s : State} {cc : Addr} (ev : own_ct.eval args s none [] s = some (.ref cc)) (hx : (Jvm.Cond.arrayOf own_ct (.object c8_)).value args s none s [] = some true) (hl : (Jvm.Cond.eq (.length own_ct) (.int (256 : Int32))).value args s none s [] = some true) {c : Jvm.Cond} (hall : (Jvm.Cond.all own_ct (.and (.exactly (.elem own_ct (.index 0)) c8_) c)).value args s none s [] = some true) :
    ∃ w0 w1 w2, own_IC s cc w0 w1 w2 ∧ Exa s s.heap w0 c8_ ∧ Exa s s.heap w1 c8_ ∧ Exa s s.heap w2 c8_ := by
  obtain ⟨cl, A, q1, q2⟩ := own_arr ev hx hl
  have sz : cl.slots.size = 256 := by
    have h2 := congrArg Int32.toInt q2
    rw [len_toInt q1, show (256 : Int32).toInt = 256 from by decide] at h2
    omega
  obtain ⟨w0, a1, b1⟩ := own_el ev A hall 128 (by omega) dE_
  obtain ⟨w1, a2, b2⟩ := own_el ev A hall 129 (by omega) dE_
  obtain ⟨w2, a3, b3⟩ := own_el ev A hall 130 (by omega) dE_
  exact ⟨w0, w1, w2, ⟨cl, A, sz, a1, a2, a3⟩, b1, b2, b3⟩

theorem d9_0 : dC9_ 0 (.iload_n 0, 1) := by decide +kernel
theorem d9_1 : dC9_ 1 (.bipush (-128), 2) := by decide +kernel
theorem d9_3 : dC9_ 3 (.if_icmp .lt 20, 3) := by decide +kernel
theorem d9_6 : dC9_ 6 (.iload_n 0, 1) := by decide +kernel
theorem d9_7 : dC9_ 7 (.getstatic 191, 3) := by decide +kernel
theorem d9_10 : dC9_ 10 (.if_icmp .gt 13, 3) := by decide +kernel
theorem d9_13 : dC9_ 13 (.getstatic 195, 3) := by decide +kernel
theorem d9_16 : dC9_ 16 (.iload_n 0, 1) := by decide +kernel
theorem d9_17 : dC9_ 17 (.sipush 128, 3) := by decide +kernel
theorem d9_20 : dC9_ 20 (.iadd, 1) := by decide +kernel
theorem d9_21 : dC9_ 21 (.aaload, 1) := by decide +kernel
theorem d9_22 : dC9_ 22 (.areturn, 1) := by decide +kernel
theorem r9_0_1 : oDec jdk_33_method_22_code [(0, .iload_n 0, 1), (1, .bipush (-128), 2)] := by decide +kernel
theorem r9_6_6 : oDec jdk_33_method_22_code [(6, .iload_n 0, 1)] := by decide +kernel
theorem r9_16_16 : oDec jdk_33_method_22_code [(16, .iload_n 0, 1)] := by decide +kernel
theorem pn_9 : plainName "java/lang/Integer" = true := by first | (simp [plainName, overriddenIn]; done) | decide +kernel
theorem ef_9 (m : MethodId) (x0 : Int32) : entryFrame m #[(.int x0)] 1 = mkF m 0 #[iv x0] [] := by first | (simp [entryFrame, mkF, argsToLocals, Value.category]; done) | rfl
set_option maxRecDepth 65536 in
set_option maxHeartbeats 40000000 in
theorem rm9_0 (hw : oW_ a0 Z) (Z0 : n0 ≤ h0.size) (OZ : Old Z n0 h0) (S_high : Sta Z Z.heap c24_ "high" "I" (.int (127 : Int32))) (S_cache : Sta Z Z.heap c24_ "cache" c31_ (.ref cc)) (hIC : own_IC Z cc w0 w1 w2) :
    oM l y6_ jdk_33_method_22_code 1 (some (.object c8_)) ws (rM_ 0 0 0 0) #[oZ] Z h0 (fun v h L => v = some (.ref w0) ∧ Fr n0 L ∧ h = h0) := by
  refine own_body c8_ (plainFor_of_name pn_9) (fun m => ef_9 m (0 : Int32)) fun p e s m below meth c s₁ X0 H hnm Bret Blk e0 => ?_
  obtain ⟨hx, hZ, _, _, hby⟩ := id H
  have N0 := Fr.nil n0
  refine oCN X0 H r9_0_1 d9_3 #[iv (0 : Int32)] [] rfl (flt (by decide : ¬ ((0 : Int32) < (-128 : Int32)))).1 ?_
  refine oH X0 H r9_6_6 7 [oZ] ?_
  refine oGS X0 H (host := "") (Or.inl (hV hw 44)) Via.refl e0 (S_high.ext OZ.2) d9_7 fun T1 X1 e1 => ?_
  refine oCN X1 H oD0 d9_10 #[iv (0 : Int32)] [] rfl (flt (by decide : ¬ ((127 : Int32) < (0 : Int32)))).2.2.1 ?_
  refine oGS X1 H (host := "") (Or.inl (hV hw 46)) Via.refl e1 (S_cache.ext OZ.2) d9_13 fun T2 X2 e2 => ?_
  refine oG X2 H r9_16_16 17 #[iv (0 : Int32)] [oZ, (.ref cc)] ?_
  refine oB_ (tF_ T2 (mkF m 20 #[iv (0 : Int32)] [(.int (128 : Int32)), oZ, (.ref cc)])) (fun t k => ?_) ?_
  · refine XS.sipush X2.here hx rfl (hb hby d9_17) ?_
    exact k
  refine oB_ (tF_ T2 (mkF m 21 #[iv (0 : Int32)] [(.int (128 : Int32)), (.ref cc)])) (fun t k => ?_) ?_
  · refine XS.iadd X2.here hx rfl (hb hby d9_20) rfl ?_
    exact k
  obtain ⟨cl, A, sz, q0, _⟩ := hIC
  have Ar : Arr Z h0 cc cl (.object c8_) := ⟨OZ.2.2 _ _ A.1, A.2.1, A.2.2⟩
  refine own_by (fun t k => X2.aaload hx (j := (128 : Int32)) (v := .ref w0) (by rw [show T2.heap = h0 from e2]; exact Ar.1) (State.isArrayOf_alike hZ.alike Ar.2.1) rfl Ar.2.2 (by rw [sz]; decide) q0 (g := (mkF m 21 #[iv (0 : Int32)] [(.int (128 : Int32)), (.ref cc)])) rfl rfl (hb hby d9_21) _ k) ?_
  show own_Go p e below _ (T2.setTop (mkF m 22 #[iv (0 : Int32)] [(.ref w0)]))
  exact own_retR X2 Blk hx Bret rfl rfl rfl (hb hby d9_22) (by
      try rw [show T2.heap = h0 from e2]
      exact ⟨rfl, N0, rfl⟩) dE_ dE_

set_option maxRecDepth 65536 in
set_option maxHeartbeats 40000000 in
theorem rm9_1 (hw : oW_ a0 Z) (Z0 : n0 ≤ h0.size) (OZ : Old Z n0 h0) (S_high : Sta Z Z.heap c24_ "high" "I" (.int (127 : Int32))) (S_cache : Sta Z Z.heap c24_ "cache" c31_ (.ref cc)) (hIC : own_IC Z cc w0 w1 w2) :
    oM l y6_ jdk_33_method_22_code 1 (some (.object c8_)) ws (rM_ 0 0 0 0) #[(.int (1 : Int32))] Z h0 (fun v h L => v = some (.ref w1) ∧ Fr n0 L ∧ h = h0) := by
  refine own_body c8_ (plainFor_of_name pn_9) (fun m => ef_9 m (1 : Int32)) fun p e s m below meth c s₁ X0 H hnm Bret Blk e0 => ?_
  obtain ⟨hx, hZ, _, _, hby⟩ := id H
  have N0 := Fr.nil n0
  refine oCN X0 H r9_0_1 d9_3 #[iv (1 : Int32)] [] rfl (flt (by decide : ¬ ((1 : Int32) < (-128 : Int32)))).1 ?_
  refine oH X0 H r9_6_6 7 [(.int (1 : Int32))] ?_
  refine oGS X0 H (host := "") (Or.inl (hV hw 44)) Via.refl e0 (S_high.ext OZ.2) d9_7 fun T1 X1 e1 => ?_
  refine oCN X1 H oD0 d9_10 #[iv (1 : Int32)] [] rfl (flt (by decide : ¬ ((127 : Int32) < (1 : Int32)))).2.2.1 ?_
  refine oGS X1 H (host := "") (Or.inl (hV hw 46)) Via.refl e1 (S_cache.ext OZ.2) d9_13 fun T2 X2 e2 => ?_
  refine oG X2 H r9_16_16 17 #[iv (1 : Int32)] [(.int (1 : Int32)), (.ref cc)] ?_
  refine oB_ (tF_ T2 (mkF m 20 #[iv (1 : Int32)] [(.int (128 : Int32)), (.int (1 : Int32)), (.ref cc)])) (fun t k => ?_) ?_
  · refine XS.sipush X2.here hx rfl (hb hby d9_17) ?_
    exact k
  refine oB_ (tF_ T2 (mkF m 21 #[iv (1 : Int32)] [(.int (129 : Int32)), (.ref cc)])) (fun t k => ?_) ?_
  · refine XS.iadd X2.here hx rfl (hb hby d9_20) rfl ?_
    exact k
  obtain ⟨cl, A, sz, _, q1, _⟩ := hIC
  have Ar : Arr Z h0 cc cl (.object c8_) := ⟨OZ.2.2 _ _ A.1, A.2.1, A.2.2⟩
  refine own_by (fun t k => X2.aaload hx (j := (129 : Int32)) (v := .ref w1) (by rw [show T2.heap = h0 from e2]; exact Ar.1) (State.isArrayOf_alike hZ.alike Ar.2.1) rfl Ar.2.2 (by rw [sz]; decide) q1 (g := (mkF m 21 #[iv (1 : Int32)] [(.int (129 : Int32)), (.ref cc)])) rfl rfl (hb hby d9_21) _ k) ?_
  show own_Go p e below _ (T2.setTop (mkF m 22 #[iv (1 : Int32)] [(.ref w1)]))
  exact own_retR X2 Blk hx Bret rfl rfl rfl (hb hby d9_22) (by
      try rw [show T2.heap = h0 from e2]
      exact ⟨rfl, N0, rfl⟩) dE_ dE_

set_option maxRecDepth 65536 in
set_option maxHeartbeats 40000000 in
theorem rm9_2 (hw : oW_ a0 Z) (Z0 : n0 ≤ h0.size) (OZ : Old Z n0 h0) (S_high : Sta Z Z.heap c24_ "high" "I" (.int (127 : Int32))) (S_cache : Sta Z Z.heap c24_ "cache" c31_ (.ref cc)) (hIC : own_IC Z cc w0 w1 w2) :
    oM l y6_ jdk_33_method_22_code 1 (some (.object c8_)) ws (rM_ 0 0 0 0) #[(.int (2 : Int32))] Z h0 (fun v h L => v = some (.ref w2) ∧ Fr n0 L ∧ h = h0) := by
  refine own_body c8_ (plainFor_of_name pn_9) (fun m => ef_9 m (2 : Int32)) fun p e s m below meth c s₁ X0 H hnm Bret Blk e0 => ?_
  obtain ⟨hx, hZ, _, _, hby⟩ := id H
  have N0 := Fr.nil n0
  refine oCN X0 H r9_0_1 d9_3 #[iv (2 : Int32)] [] rfl (flt (by decide : ¬ ((2 : Int32) < (-128 : Int32)))).1 ?_
  refine oH X0 H r9_6_6 7 [(.int (2 : Int32))] ?_
  refine oGS X0 H (host := "") (Or.inl (hV hw 44)) Via.refl e0 (S_high.ext OZ.2) d9_7 fun T1 X1 e1 => ?_
  refine oCN X1 H oD0 d9_10 #[iv (2 : Int32)] [] rfl (flt (by decide : ¬ ((127 : Int32) < (2 : Int32)))).2.2.1 ?_
  refine oGS X1 H (host := "") (Or.inl (hV hw 46)) Via.refl e1 (S_cache.ext OZ.2) d9_13 fun T2 X2 e2 => ?_
  refine oG X2 H r9_16_16 17 #[iv (2 : Int32)] [(.int (2 : Int32)), (.ref cc)] ?_
  refine oB_ (tF_ T2 (mkF m 20 #[iv (2 : Int32)] [(.int (128 : Int32)), (.int (2 : Int32)), (.ref cc)])) (fun t k => ?_) ?_
  · refine XS.sipush X2.here hx rfl (hb hby d9_17) ?_
    exact k
  refine oB_ (tF_ T2 (mkF m 21 #[iv (2 : Int32)] [(.int (130 : Int32)), (.ref cc)])) (fun t k => ?_) ?_
  · refine XS.iadd X2.here hx rfl (hb hby d9_20) rfl ?_
    exact k
  obtain ⟨cl, A, sz, _, _, q2⟩ := hIC
  have Ar : Arr Z h0 cc cl (.object c8_) := ⟨OZ.2.2 _ _ A.1, A.2.1, A.2.2⟩
  refine own_by (fun t k => X2.aaload hx (j := (130 : Int32)) (v := .ref w2) (by rw [show T2.heap = h0 from e2]; exact Ar.1) (State.isArrayOf_alike hZ.alike Ar.2.1) rfl Ar.2.2 (by rw [sz]; decide) q2 (g := (mkF m 21 #[iv (2 : Int32)] [(.int (130 : Int32)), (.ref cc)])) rfl rfl (hb hby d9_21) _ k) ?_
  show own_Go p e below _ (T2.setTop (mkF m 22 #[iv (2 : Int32)] [(.ref w2)]))
  exact own_retR X2 Blk hx Bret rfl rfl rfl (hb hby d9_22) (by
      try rw [show T2.heap = h0 from e2]
      exact ⟨rfl, N0, rfl⟩) dE_ dE_

theorem d30_0 : dC10_ 0 (.aload_n 0, 1) := by decide +kernel
theorem d30_1 : dC10_ 1 (.getfield 48, 3) := by decide +kernel
theorem d30_4 : dC10_ 4 (.ireturn, 1) := by decide +kernel
theorem r30_0_0 : oDec jdk_38_method_8_code [(0, .aload_n 0, 1)] := by decide +kernel
theorem pn_30 : plainName "java/util/ArrayList" = true := by first | (simp [plainName, overriddenIn]; done) | decide +kernel
theorem ef_30 (m : MethodId) (x0 : Addr) : entryFrame m #[(.ref x0)] 1 = mkF m 0 #[rv x0] [] := by first | (simp [entryFrame, mkF, argsToLocals, Value.category]; done) | rfl
set_option maxRecDepth 65536 in
set_option maxHeartbeats 40000000 in
theorem rm30_26 (hw : oW_ a0 Z) (Z0 : n0 ≤ h0.size) (F_size_o0 : Fld Z h0 o0 c0_ "size" "I" (.int i0)) :
    oM l y7_ jdk_38_method_8_code 1 (some .int) ws (rM_ 0 0 0 0) #[(.ref o0)] Z h0 (fun v h L => v = some (.int i0) ∧ Fr n0 L ∧ h = h0) := by
  refine own_body c0_ (plainFor_of_name pn_30) (fun m => ef_30 m o0) fun p e s m below meth c s₁ X0 H hnm Bret Blk e0 => ?_
  obtain ⟨hx, _, _, _, hby⟩ := id H
  have N0 := Fr.nil n0
  refine oG X0 H r30_0_0 1 #[rv o0] [(.ref o0)] ?_
  refine oGf X0 H (hV hw 98) e0 F_size_o0 d30_1 fun T1 X1 e1 => ?_
  exact own_retI X1 Blk hx Bret (hb hby d30_4) (by
      try rw [show T1.heap = h0 from e1]
      exact ⟨rfl, N0, rfl⟩) dE_ dE_

theorem r0_245_245 : oDec code [(245, .aload 15, 2)] := by decide +kernel
theorem r0_252_252 : oDec code [(252, .aload 16, 2)] := by decide +kernel
theorem r0_262_265 : oDec code [(262, .iconst 1, 1), (263, .istore 17, 2), (265, .aload 16, 2)] := by decide +kernel
theorem r0_302_302 : oDec code [(302, .aload 16, 2)] := by decide +kernel
theorem r0_307_307 : oDec code [(307, .iconst 1, 1)] := by decide +kernel
theorem r0_340_340 : oDec code [(340, .aload 16, 2)] := by decide +kernel
theorem r0_345_345 : oDec code [(345, .iconst 2, 1)] := by decide +kernel
theorem r0_378_378 : oDec code [(378, .iload 17, 2)] := by decide +kernel
theorem pd_23 : parseMethodDescriptor "()I" = some ⟨[], some .int⟩ := by decide +kernel
set_option maxRecDepth 65536 in
set_option maxHeartbeats 40000000 in
theorem own_D0 {p : Program} {l : Launch} {e : Env} {s : State} {m : MethodId} {args : Array Value} {below : List Frame} {meth : Method} {c : Code} {s₁ : State} {locs : List Loc} {Z : State} {a0 : Array Value} {h0 h1 : Heap} {n0 : Nat} {vm1 : Vm} {kS : Nat} (p0 p1 : Int32) (p2 p3 : Int32) (p4 p5 nl : Int32) (xq x1 : Addr) (x2 x3 : Addr) (w0 w1 : Addr) (w2 lm : Addr) (la lb em : Addr) (ke : ClassId)
    (X0 : Stand p l e room_1 (s.setVm vm1) m args below meth c s₁ locs 50 1000) (hx : p.tables.exec = Jvm.exec) (hZ : Z.Warmed39 (s.setVm vm1).vm) (hw : oW_ a0 Z) (hby : c.code = code) (hml : c.maxLocals = 18) (hown : (s.setVm vm1).vm.findClass c10_ = some m.cls) (hSi : s.Since vm1 kS) (Bret : meth.sig.returnType = some .boolean) (Blk : meth.locks = false) (e0 : s₁.heap = h1) (N0 : Fr n0 locs) (Z0 : n0 ≤ h1.size) (E_la : Exa Z h1 la c0_) (F_elementData_la : Fld Z h1 la c0_ "elementData" c3_ (.ref em)) (F_size_la : Fld Z h1 la c0_ "size" "I" oZ) (E_lb : Exa Z h1 lb c0_) (F_elementData_lb : Fld Z h1 lb c0_ "elementData" c3_ (.ref em)) (F_size_lb : Fld Z h1 lb c0_ "size" "I" oZ) (V_em : Arv Z h1 em ke (.object c1_) (0 : Int32) [] .null) (hk : kS ≤ h1.size) :
    own_Go p e below (own_PostW s (fun v h L => v = some (.int (1 : Int32)) ∧ Fr n0 L) room_1.cells room_1.slots) (s₁.setTop (mkF m 245 (lA10_ p0 p1 p2 p3 p4 p5 nl xq x1 x2 x3 w0 w1 w2 lm la lb) [])) := by
  have H : oH_ p _ m c Z _ _ _ := ⟨hx, hZ, hown, hml, hby⟩
  refine oG X0 H r0_245_245 247 (lA10_ p0 p1 p2 p3 p4 p5 nl xq x1 x2 x3 w0 w1 w2 lm la lb) [(.ref la)] ?_
  refine ocF X0 H (wb7_ hw) (rm30_26 hw Z0 F_size_la) e0 0 la E_la [] [] pd_23 at_247 fun T3 _ _ X3 hQ3 => ?_
  obtain ⟨rfl, N3, e3⟩ := hQ3
  replace N0 := Fr.app N0 N3
  refine oG X3 H r0_252_252 254 (lA10_ p0 p1 p2 p3 p4 p5 nl xq x1 x2 x3 w0 w1 w2 lm la lb) [(.ref lb), oZ] ?_
  refine ocV X3 H (wb8_ hw) (rm30_26 hw Z0 F_size_lb) e3 1 lb E_lb [] [oZ] pd_23 at_254 fun T5 _ _ X5 hQ5 => ?_
  obtain ⟨rfl, N5, e5⟩ := hQ5
  replace N0 := Fr.app N0 N5
  refine oCY X5 H oD0 at_257 262 (lA10_ p0 p1 p2 p3 p4 p5 nl xq x1 x2 x3 w0 w1 w2 lm la lb) [] rfl (teq (by decide : (0 : Int32) = (0 : Int32))).1 ?_
  refine oG X5 H r0_262_265 267 (lA11_ p0 p1 p2 p3 p4 p5 nl xq x1 x2 x3 w0 w1 w2 lm la lb (1 : Int32)) [(.ref lb)] ?_
  refine ocV X5 H (wb8_ hw) (rm30_26 hw Z0 F_size_lb) e5 0 lb E_lb [] [] pd_23 at_267 fun T7 _ _ X7 hQ7 => ?_
  obtain ⟨rfl, N7, e7⟩ := hQ7
  replace N0 := Fr.app N0 N7
  refine oIY X7 H oD0 at_270 302 (lA11_ p0 p1 p2 p3 p4 p5 nl xq x1 x2 x3 w0 w1 w2 lm la lb (1 : Int32)) [] rfl ((if0 _ _).trans (flt (by decide : ¬ ((0 : Int32) < (0 : Int32)))).2.2.2) ?_
  refine oH X7 H r0_302_302 304 [(.ref lb)] ?_
  refine ocV X7 H (wb8_ hw) (rm30_26 hw Z0 F_size_lb) e7 0 lb E_lb [] [] pd_23 at_304 fun T9 _ _ X9 hQ9 => ?_
  obtain ⟨rfl, N9, e9⟩ := hQ9
  replace N0 := Fr.app N0 N9
  refine oCY X9 H r0_307_307 at_308 340 (lA11_ p0 p1 p2 p3 p4 p5 nl xq x1 x2 x3 w0 w1 w2 lm la lb (1 : Int32)) [] rfl (flt (by decide : ¬ ((1 : Int32) < (0 : Int32)))).2.2.2 ?_
  refine oH X9 H r0_340_340 342 [(.ref lb)] ?_
  refine ocV X9 H (wb8_ hw) (rm30_26 hw Z0 F_size_lb) e9 0 lb E_lb [] [] pd_23 at_342 fun T11 _ _ X11 hQ11 => ?_
  obtain ⟨rfl, N11, e11⟩ := hQ11
  replace N0 := Fr.app N0 N11
  refine oCY X11 H r0_345_345 at_346 378 (lA11_ p0 p1 p2 p3 p4 p5 nl xq x1 x2 x3 w0 w1 w2 lm la lb (1 : Int32)) [] rfl (flt (by decide : ¬ ((2 : Int32) < (0 : Int32)))).2.2.2 ?_
  refine oH X11 H r0_378_378 380 [(.int (1 : Int32))] ?_
  exact own_retNW X11 Blk hx (t := .boolean) Bret (by simp) (hb hby at_380) hSi (by rw [show T11.heap = h1 from e11]; exact hk) (by
      try rw [show T11.heap = h1 from e11]
      exact ⟨rfl, N0⟩) dE_ dE_

theorem d34_0 : dC11_ 0 (.iload_n 0, 1) := by decide +kernel
theorem d34_1 : dC11_ 1 (.ifCond .lt 8, 3) := by decide +kernel
theorem d34_4 : dC11_ 4 (.iload_n 0, 1) := by decide +kernel
theorem d34_5 : dC11_ 5 (.iload_n 1, 1) := by decide +kernel
theorem d34_6 : dC11_ 6 (.if_icmp .lt 10, 3) := by decide +kernel
theorem d34_16 : dC11_ 16 (.iload_n 0, 1) := by decide +kernel
theorem d34_17 : dC11_ 17 (.ireturn, 1) := by decide +kernel
theorem r34_0_0 : oDec jdk_41_method_11_code [(0, .iload_n 0, 1)] := by decide +kernel
theorem r34_4_5 : oDec jdk_41_method_11_code [(4, .iload_n 0, 1), (5, .iload_n 1, 1)] := by decide +kernel
theorem r34_16_16 : oDec jdk_41_method_11_code [(16, .iload_n 0, 1)] := by decide +kernel
theorem pn_34 : plainName "jdk/internal/util/Preconditions" = true := by first | (simp [plainName, overriddenIn]; done) | decide +kernel
theorem ef_34n (m : MethodId) (x0 x1 : Int32) : entryFrame m #[(.int x0), (.int x1), .null] 3 = mkF m 0 #[iv x0, iv x1, .val .null] [] := by first | (simp [entryFrame, mkF, argsToLocals, Value.category]; done) | rfl
set_option maxRecDepth 65536 in
set_option maxHeartbeats 40000000 in
theorem rm34_27 (hw : oW_ a0 Z) (Z0 : n0 ≤ h0.size) (hp0 : ¬ (i0 < (0 : Int32))) (hp1 : i0 < i1) :
    oM l (⟨c37_, "checkIndex", "(IILjava/util/function/BiFunction;)I"⟩ : MethodName) jdk_41_method_11_code 3 (some .int) ws (rM_ 0 0 0 0) #[(.int i0), (.int i1), .null] Z h0 (fun v h L => v = some (.int i0) ∧ Fr n0 L ∧ h = h0) := by
  refine own_body c37_ (plainFor_of_name pn_34) (fun m => ef_34n m i0 i1) fun p e s m below meth c s₁ X0 H hnm Bret Blk e0 => ?_
  obtain ⟨hx, _, _, _, hby⟩ := id H
  have N0 := Fr.nil n0
  refine oIN X0 H r34_0_0 d34_1 #[iv i0, iv i1, .val .null] [] rfl ((if0 _ _).trans (flt hp0).1) ?_
  refine oCY X0 H r34_4_5 d34_6 16 #[iv i0, iv i1, .val .null] [] rfl (tlt hp1).1 ?_
  refine oH X0 H r34_16_16 17 [(.int i0)] ?_
  exact own_retI X0 Blk hx Bret (hb hby d34_17) (by
      try rw [show s₁.heap = h0 from e0]
      exact ⟨rfl, N0, rfl⟩) dE_ dE_

theorem d33_0 : dC12_ 0 (.iload_n 0, 1) := by decide +kernel
theorem d33_1 : dC12_ 1 (.iload_n 1, 1) := by decide +kernel
theorem d33_2 : dC12_ 2 (.aconst_null, 1) := by decide +kernel
theorem d33_3 : dC12_ 3 (.invokestatic 105, 3) := by decide +kernel
theorem d33_6 : dC12_ 6 (.ireturn, 1) := by decide +kernel
theorem r33_0_2 : oDec jdk_31_method_17_code [(0, .iload_n 0, 1), (1, .iload_n 1, 1), (2, .aconst_null, 1)] := by decide +kernel
theorem pn_33 : plainName "java/util/Objects" = true := by first | (simp [plainName, overriddenIn]; done) | decide +kernel
theorem pd_25 : parseMethodDescriptor "(IILjava/util/function/BiFunction;)I" = some ⟨[.int, .int, (.object "java/util/function/BiFunction")], some .int⟩ := by decide +kernel
theorem ef_33 (m : MethodId) (x0 x1 : Int32) : entryFrame m #[(.int x0), (.int x1)] 2 = mkF m 0 #[iv x0, iv x1] [] := by first | (simp [entryFrame, mkF, argsToLocals, Value.category]; done) | rfl
set_option maxRecDepth 65536 in
set_option maxHeartbeats 40000000 in
theorem rm33_28 (hw : oW_ a0 Z) (Z0 : n0 ≤ h0.size) (hp0 : ¬ (i0 < (0 : Int32))) (hp1 : i0 < i1) :
    oM l (⟨c34_, "checkIndex", "(II)I"⟩ : MethodName) jdk_31_method_17_code 2 (some .int) ws (rM_ 1 0 0 14) #[(.int i0), (.int i1)] Z h0 (fun v h L => v = some (.int i0) ∧ Fr n0 L ∧ h = h0) := by
  refine own_body c34_ (plainFor_of_name pn_33) (fun m => ef_33 m i0 i1) fun p e s m below meth c s₁ X0 H hnm Bret Blk e0 => ?_
  obtain ⟨hx, _, _, _, hby⟩ := id H
  have N0 := Fr.nil n0
  refine oG X0 H r33_0_2 3 #[iv i0, iv i1] [.null, (.int i1), (.int i0)] ?_
  refine ocS X0 H (wb9_ hw) (rm34_27 hw Z0 hp0 hp1) e0 0 [(.int i0), (.int i1), .null] [] pd_25 d33_3 fun T2 _ _ X2 hQ2 => ?_
  obtain ⟨rfl, N2, e2⟩ := hQ2
  replace N0 := Fr.app N0 N2
  exact own_retI X2 Blk hx Bret (hb hby d33_6) (by
      try rw [show T2.heap = h0 from e2]
      exact ⟨rfl, N0, rfl⟩) dE_ dE_

theorem d35_0 : dC13_ 0 (.aload_n 0, 1) := by decide +kernel
theorem d35_1 : dC13_ 1 (.getfield 9, 3) := by decide +kernel
theorem d35_4 : dC13_ 4 (.iload_n 1, 1) := by decide +kernel
theorem d35_5 : dC13_ 5 (.aaload, 1) := by decide +kernel
theorem d35_6 : dC13_ 6 (.areturn, 1) := by decide +kernel
theorem r35_0_0 : oDec jdk_38_method_18_code [(0, .aload_n 0, 1)] := by decide +kernel
theorem r35_4_4 : oDec jdk_38_method_18_code [(4, .iload_n 1, 1)] := by decide +kernel
theorem pn_35 : plainName "java/util/ArrayList" = true := by first | (simp [plainName, overriddenIn]; done) | decide +kernel
theorem ef_35 (m : MethodId) (x0 : Addr) (x1 : Int32) : entryFrame m #[(.ref x0), (.int x1)] 2 = mkF m 0 #[rv x0, iv x1] [] := by first | (simp [entryFrame, mkF, argsToLocals, Value.category]; done) | rfl
set_option maxRecDepth 65536 in
set_option maxHeartbeats 40000000 in
theorem rm35_29 (hw : oW_ a0 Z) (Z0 : n0 ≤ h0.size) (F_elementData_o0 : Fld Z h0 o0 c0_ "elementData" c3_ (.ref o1)) (V_o1 : Arv Z h0 o1 k0 (.object c1_) (10 : Int32) [(.ref o2)] .null) :
    oM l y8_ jdk_38_method_18_code 2 (some (.object c1_)) ws (rM_ 0 0 0 0) #[(.ref o0), oZ] Z h0 (fun v h L => v = some (.ref o2) ∧ Fr n0 L ∧ h = h0) := by
  refine own_body c0_ (plainFor_of_name pn_35) (fun m => ef_35 m o0 (0 : Int32)) fun p e s m below meth c s₁ X0 H hnm Bret Blk e0 => ?_
  obtain ⟨hx, _, _, _, hby⟩ := id H
  have N0 := Fr.nil n0
  refine oG X0 H r35_0_0 1 #[rv o0, iv (0 : Int32)] [(.ref o0)] ?_
  refine oGf X0 H (hV hw 69) e0 F_elementData_o0 d35_1 fun T1 X1 e1 => ?_
  refine oG X1 H r35_4_4 5 #[rv o0, iv (0 : Int32)] [oZ, (.ref o1)] ?_
  refine oAal X1 H e1 V_o1 d35_5 (.ref o2) ?_
  exact own_retR X1 Blk hx Bret rfl rfl rfl (hb hby d35_6) (by
      try rw [show T1.heap = h0 from e1]
      exact ⟨rfl, N0, rfl⟩) dE_ dE_

theorem d32_0 : dC14_ 0 (.iload_n 1, 1) := by decide +kernel
theorem d32_1 : dC14_ 1 (.aload_n 0, 1) := by decide +kernel
theorem d32_2 : dC14_ 2 (.getfield 48, 3) := by decide +kernel
theorem d32_5 : dC14_ 5 (.invokestatic 118, 3) := by decide +kernel
theorem d32_8 : dC14_ 8 (.pop, 1) := by decide +kernel
theorem d32_9 : dC14_ 9 (.aload_n 0, 1) := by decide +kernel
theorem d32_10 : dC14_ 10 (.iload_n 1, 1) := by decide +kernel
theorem d32_11 : dC14_ 11 (.invokevirtual 123, 3) := by decide +kernel
theorem d32_14 : dC14_ 14 (.areturn, 1) := by decide +kernel
theorem r32_0_1 : oDec jdk_38_method_20_code [(0, .iload_n 1, 1), (1, .aload_n 0, 1)] := by decide +kernel
theorem r32_9_10 : oDec jdk_38_method_20_code [(9, .aload_n 0, 1), (10, .iload_n 1, 1)] := by decide +kernel
theorem pn_32 : plainName "java/util/ArrayList" = true := by first | (simp [plainName, overriddenIn]; done) | decide +kernel
theorem pd_14 : parseMethodDescriptor "(II)I" = some ⟨[.int, .int], some .int⟩ := by decide +kernel
theorem pd_24 : parseMethodDescriptor "(I)Ljava/lang/Object;" = some ⟨[.int], some (.object "java/lang/Object")⟩ := by decide +kernel
theorem ef_32 (m : MethodId) (x0 : Addr) (x1 : Int32) : entryFrame m #[(.ref x0), (.int x1)] 2 = mkF m 0 #[rv x0, iv x1] [] := by first | (simp [entryFrame, mkF, argsToLocals, Value.category]; done) | rfl
set_option maxRecDepth 65536 in
set_option maxHeartbeats 40000000 in
theorem rm32_30 (hw : oW_ a0 Z) (Z0 : n0 ≤ h0.size) (E_o0 : Exa Z h0 o0 c0_) (F_elementData_o0 : Fld Z h0 o0 c0_ "elementData" c3_ (.ref o1)) (F_size_o0 : Fld Z h0 o0 c0_ "size" "I" (.int i0)) (V_o1 : Arv Z h0 o1 k0 (.object c1_) (10 : Int32) [(.ref o2)] .null) (hp0 : (0 : Int32) < i0) :
    oM l y9_ jdk_38_method_20_code 2 (some (.object c1_)) ws (rM_ 2 0 0 27) #[(.ref o0), oZ] Z h0 (fun v h L => v = some (.ref o2) ∧ Fr n0 L ∧ h = h0) := by
  refine own_body c0_ (plainFor_of_name pn_32) (fun m => ef_32 m o0 (0 : Int32)) fun p e s m below meth c s₁ X0 H hnm Bret Blk e0 => ?_
  obtain ⟨hx, _, _, _, hby⟩ := id H
  have N0 := Fr.nil n0
  refine oG X0 H r32_0_1 2 #[rv o0, iv (0 : Int32)] [(.ref o0), oZ] ?_
  refine oGf X0 H (hV hw 98) e0 F_size_o0 d32_2 fun T1 X1 e1 => ?_
  refine ocS X1 H (wb10_ hw) (rm33_28 hw Z0 (by decide : ¬ ((0 : Int32) < (0 : Int32))) hp0) e1 0 [oZ, (.int i0)] [] pd_14 d32_5 fun T3 _ _ X3 hQ3 => ?_
  obtain ⟨rfl, N3, e3⟩ := hQ3
  replace N0 := Fr.app N0 N3
  refine oB_ (tF_ T3 (mkF m 9 #[rv o0, iv (0 : Int32)] [])) (fun t k => ?_) ?_
  · refine XS.pop X3.here hx rfl (hb hby d32_8) rfl rfl ?_
    exact k
  refine oH X3 H r32_9_10 11 [oZ, (.ref o0)] ?_
  refine ocV X3 H (wb11_ hw) (rm35_29 hw Z0 F_elementData_o0 V_o1) e3 0 o0 E_o0 [oZ] [] pd_24 d32_11 fun T5 _ _ X5 hQ5 => ?_
  obtain ⟨rfl, N5, e5⟩ := hQ5
  replace N0 := Fr.app N0 N5
  exact own_retR X5 Blk hx Bret rfl rfl rfl (hb hby d32_14) (by
      try rw [show T5.heap = h0 from e5]
      exact ⟨rfl, N0, rfl⟩) dE_ dE_

theorem r0_273_273 : oDec code [(273, .iload 17, 2)] := by decide +kernel
theorem r0_278_280 : oDec code [(278, .aload 15, 2), (280, .iconst 0, 1)] := by decide +kernel
theorem r0_286_288 : oDec code [(286, .aload 16, 2), (288, .iconst 0, 1)] := by decide +kernel
theorem r0_295_302 : oDec code [(295, .iconst 1, 1), (296, .goto 4, 3), (300, .istore 17, 2), (302, .aload 16, 2)] := by decide +kernel
set_option maxRecDepth 65536 in
set_option maxHeartbeats 40000000 in
theorem own_D1 {p : Program} {l : Launch} {e : Env} {s : State} {m : MethodId} {args : Array Value} {below : List Frame} {meth : Method} {c : Code} {s₁ : State} {locs : List Loc} {Z : State} {a0 : Array Value} {h0 h1 : Heap} {n0 : Nat} {vm1 : Vm} {kS : Nat} (p0 p1 : Int32) (p2 p3 : Int32) (p4 p5 nl : Int32) (xq x1 : Addr) (x2 x3 : Addr) (w0 w1 : Addr) (w2 lm : Addr) (la lb : Addr) (aa ab : Addr) (ka kb : ClassId) (e0_ : Addr)
    (X0 : Stand p l e room_1 (s.setVm vm1) m args below meth c s₁ locs 50 1000) (hx : p.tables.exec = Jvm.exec) (hZ : Z.Warmed39 (s.setVm vm1).vm) (hw : oW_ a0 Z) (hby : c.code = code) (hml : c.maxLocals = 18) (hown : (s.setVm vm1).vm.findClass c10_ = some m.cls) (hSi : s.Since vm1 kS) (Bret : meth.sig.returnType = some .boolean) (Blk : meth.locks = false) (e0 : s₁.heap = h1) (N0 : Fr n0 locs) (Z0 : n0 ≤ h1.size) (E_la : Exa Z h1 la c0_) (F_elementData_la : Fld Z h1 la c0_ "elementData" c3_ (.ref aa)) (F_size_la : Fld Z h1 la c0_ "size" "I" (.int (1 : Int32))) (E_lb : Exa Z h1 lb c0_) (F_elementData_lb : Fld Z h1 lb c0_ "elementData" c3_ (.ref ab)) (F_size_lb : Fld Z h1 lb c0_ "size" "I" (.int (1 : Int32))) (V_aa : Arv Z h1 aa ka (.object c1_) (10 : Int32) [(.ref e0_)] .null) (V_ab : Arv Z h1 ab kb (.object c1_) (10 : Int32) [(.ref e0_)] .null) (hk : kS ≤ h1.size) :
    own_Go p e below (own_PostW s (fun v h L => v = some (.int (1 : Int32)) ∧ Fr n0 L) room_1.cells room_1.slots) (s₁.setTop (mkF m 245 (lA10_ p0 p1 p2 p3 p4 p5 nl xq x1 x2 x3 w0 w1 w2 lm la lb) [])) := by
  have H : oH_ p _ m c Z _ _ _ := ⟨hx, hZ, hown, hml, hby⟩
  refine oG X0 H r0_245_245 247 (lA10_ p0 p1 p2 p3 p4 p5 nl xq x1 x2 x3 w0 w1 w2 lm la lb) [(.ref la)] ?_
  refine ocF X0 H (wb7_ hw) (rm30_26 hw Z0 F_size_la) e0 0 la E_la [] [] pd_23 at_247 fun T3 _ _ X3 hQ3 => ?_
  obtain ⟨rfl, N3, e3⟩ := hQ3
  replace N0 := Fr.app N0 N3
  refine oG X3 H r0_252_252 254 (lA10_ p0 p1 p2 p3 p4 p5 nl xq x1 x2 x3 w0 w1 w2 lm la lb) [(.ref lb), (.int (1 : Int32))] ?_
  refine ocV X3 H (wb8_ hw) (rm30_26 hw Z0 F_size_lb) e3 1 lb E_lb [] [(.int (1 : Int32))] pd_23 at_254 fun T5 _ _ X5 hQ5 => ?_
  obtain ⟨rfl, N5, e5⟩ := hQ5
  replace N0 := Fr.app N0 N5
  refine oCY X5 H oD0 at_257 262 (lA10_ p0 p1 p2 p3 p4 p5 nl xq x1 x2 x3 w0 w1 w2 lm la lb) [] rfl (teq (by decide : (1 : Int32) = (1 : Int32))).1 ?_
  refine oG X5 H r0_262_265 267 (lA11_ p0 p1 p2 p3 p4 p5 nl xq x1 x2 x3 w0 w1 w2 lm la lb (1 : Int32)) [(.ref lb)] ?_
  refine ocV X5 H (wb8_ hw) (rm30_26 hw Z0 F_size_lb) e5 0 lb E_lb [] [] pd_23 at_267 fun T7 _ _ X7 hQ7 => ?_
  obtain ⟨rfl, N7, e7⟩ := hQ7
  replace N0 := Fr.app N0 N7
  refine oIN X7 H oD0 at_270 (lA11_ p0 p1 p2 p3 p4 p5 nl xq x1 x2 x3 w0 w1 w2 lm la lb (1 : Int32)) [] rfl ((if0 _ _).trans (tlt (by decide : (0 : Int32) < (1 : Int32))).2.2.2) ?_
  refine oIN X7 H r0_273_273 at_275 (lA11_ p0 p1 p2 p3 p4 p5 nl xq x1 x2 x3 w0 w1 w2 lm la lb (1 : Int32)) [] rfl ((if0 _ _).trans (feq (by decide : ¬ ((1 : Int32) = (0 : Int32)))).1) ?_
  refine oH X7 H r0_278_280 281 [oZ, (.ref la)] ?_
  refine ocF X7 H (wb12_ hw) (rm32_30 hw Z0 E_la F_elementData_la F_size_la V_aa (by decide : (0 : Int32) < (1 : Int32))) e7 0 la E_la [oZ] [] pd_24 at_281 fun T9 _ _ X9 hQ9 => ?_
  obtain ⟨rfl, N9, e9⟩ := hQ9
  replace N0 := Fr.app N0 N9
  refine oG X9 H r0_286_288 289 (lA11_ p0 p1 p2 p3 p4 p5 nl xq x1 x2 x3 w0 w1 w2 lm la lb (1 : Int32)) [oZ, (.ref lb), (.ref e0_)] ?_
  refine ocV X9 H (wb13_ hw) (rm32_30 hw Z0 E_lb F_elementData_lb F_size_lb V_ab (by decide : (0 : Int32) < (1 : Int32))) e9 1 lb E_lb [oZ] [(.ref e0_)] pd_24 at_289 fun T11 _ _ X11 hQ11 => ?_
  obtain ⟨rfl, N11, e11⟩ := hQ11
  replace N0 := Fr.app N0 N11
  refine own_by (fun t k => Jvm.RoadKit.acmp (g := (mkF m 292 (lA11_ p0 p1 p2 p3 p4 p5 nl xq x1 x2 x3 w0 w1 w2 lm la lb (1 : Int32)) [(.ref e0_), (.ref e0_)])) X11 hx rfl rfl rfl (pc0 := 292) (pc' := 295) (same := true) rfl (hb hby at_292) rfl (decide_eq_true rfl) dE_ dE_ k) ?_
  refine oG X11 H r0_295_302 304 (lA11_ p0 p1 p2 p3 p4 p5 nl xq x1 x2 x3 w0 w1 w2 lm la lb (1 : Int32)) [(.ref lb)] ?_
  refine ocV X11 H (wb8_ hw) (rm30_26 hw Z0 F_size_lb) e11 0 lb E_lb [] [] pd_23 at_304 fun T13 _ _ X13 hQ13 => ?_
  obtain ⟨rfl, N13, e13⟩ := hQ13
  replace N0 := Fr.app N0 N13
  refine oCY X13 H r0_307_307 at_308 340 (lA11_ p0 p1 p2 p3 p4 p5 nl xq x1 x2 x3 w0 w1 w2 lm la lb (1 : Int32)) [] rfl (flt (by decide : ¬ ((1 : Int32) < (1 : Int32)))).2.2.2 ?_
  refine oH X13 H r0_340_340 342 [(.ref lb)] ?_
  refine ocV X13 H (wb8_ hw) (rm30_26 hw Z0 F_size_lb) e13 0 lb E_lb [] [] pd_23 at_342 fun T15 _ _ X15 hQ15 => ?_
  obtain ⟨rfl, N15, e15⟩ := hQ15
  replace N0 := Fr.app N0 N15
  refine oCY X15 H r0_345_345 at_346 378 (lA11_ p0 p1 p2 p3 p4 p5 nl xq x1 x2 x3 w0 w1 w2 lm la lb (1 : Int32)) [] rfl (flt (by decide : ¬ ((2 : Int32) < (1 : Int32)))).2.2.2 ?_
  refine oH X15 H r0_378_378 380 [(.int (1 : Int32))] ?_
  exact own_retNW X15 Blk hx (t := .boolean) Bret (by simp) (hb hby at_380) hSi (by rw [show T15.heap = h1 from e15]; exact hk) (by
      try rw [show T15.heap = h1 from e15]
      exact ⟨rfl, N0⟩) dE_ dE_

set_option maxRecDepth 65536 in
set_option maxHeartbeats 40000000 in
theorem rm35_31 (hw : oW_ a0 Z) (Z0 : n0 ≤ h0.size) (F_elementData_o0 : Fld Z h0 o0 c0_ "elementData" c3_ (.ref o1)) (V_o1 : Arv Z h0 o1 k0 (.object c1_) (10 : Int32) [(.ref o2), (.ref o3)] .null) :
    oM l y8_ jdk_38_method_18_code 2 (some (.object c1_)) ws (rM_ 0 0 0 0) #[(.ref o0), oZ] Z h0 (fun v h L => v = some (.ref o2) ∧ Fr n0 L ∧ h = h0) := by
  refine own_body c0_ (plainFor_of_name pn_35) (fun m => ef_35 m o0 (0 : Int32)) fun p e s m below meth c s₁ X0 H hnm Bret Blk e0 => ?_
  obtain ⟨hx, _, _, _, hby⟩ := id H
  have N0 := Fr.nil n0
  refine oG X0 H r35_0_0 1 #[rv o0, iv (0 : Int32)] [(.ref o0)] ?_
  refine oGf X0 H (hV hw 69) e0 F_elementData_o0 d35_1 fun T1 X1 e1 => ?_
  refine oG X1 H r35_4_4 5 #[rv o0, iv (0 : Int32)] [oZ, (.ref o1)] ?_
  refine oAal X1 H e1 V_o1 d35_5 (.ref o2) ?_
  exact own_retR X1 Blk hx Bret rfl rfl rfl (hb hby d35_6) (by
      try rw [show T1.heap = h0 from e1]
      exact ⟨rfl, N0, rfl⟩) dE_ dE_

set_option maxRecDepth 65536 in
set_option maxHeartbeats 40000000 in
theorem rm32_32 (hw : oW_ a0 Z) (Z0 : n0 ≤ h0.size) (E_o0 : Exa Z h0 o0 c0_) (F_elementData_o0 : Fld Z h0 o0 c0_ "elementData" c3_ (.ref o1)) (F_size_o0 : Fld Z h0 o0 c0_ "size" "I" (.int i0)) (V_o1 : Arv Z h0 o1 k0 (.object c1_) (10 : Int32) [(.ref o2), (.ref o3)] .null) (hp0 : (0 : Int32) < i0) :
    oM l y9_ jdk_38_method_20_code 2 (some (.object c1_)) ws (rM_ 2 0 0 27) #[(.ref o0), oZ] Z h0 (fun v h L => v = some (.ref o2) ∧ Fr n0 L ∧ h = h0) := by
  refine own_body c0_ (plainFor_of_name pn_32) (fun m => ef_32 m o0 (0 : Int32)) fun p e s m below meth c s₁ X0 H hnm Bret Blk e0 => ?_
  obtain ⟨hx, _, _, _, hby⟩ := id H
  have N0 := Fr.nil n0
  refine oG X0 H r32_0_1 2 #[rv o0, iv (0 : Int32)] [(.ref o0), oZ] ?_
  refine oGf X0 H (hV hw 98) e0 F_size_o0 d32_2 fun T1 X1 e1 => ?_
  refine ocS X1 H (wb10_ hw) (rm33_28 hw Z0 (by decide : ¬ ((0 : Int32) < (0 : Int32))) hp0) e1 0 [oZ, (.int i0)] [] pd_14 d32_5 fun T3 _ _ X3 hQ3 => ?_
  obtain ⟨rfl, N3, e3⟩ := hQ3
  replace N0 := Fr.app N0 N3
  refine oB_ (tF_ T3 (mkF m 9 #[rv o0, iv (0 : Int32)] [])) (fun t k => ?_) ?_
  · refine XS.pop X3.here hx rfl (hb hby d32_8) rfl rfl ?_
    exact k
  refine oH X3 H r32_9_10 11 [oZ, (.ref o0)] ?_
  refine ocV X3 H (wb11_ hw) (rm35_31 hw Z0 F_elementData_o0 V_o1) e3 0 o0 E_o0 [oZ] [] pd_24 d32_11 fun T5 _ _ X5 hQ5 => ?_
  obtain ⟨rfl, N5, e5⟩ := hQ5
  replace N0 := Fr.app N0 N5
  exact own_retR X5 Blk hx Bret rfl rfl rfl (hb hby d32_14) (by
      try rw [show T5.heap = h0 from e5]
      exact ⟨rfl, N0, rfl⟩) dE_ dE_

set_option maxRecDepth 65536 in
set_option maxHeartbeats 40000000 in
theorem rm35_33 (hw : oW_ a0 Z) (Z0 : n0 ≤ h0.size) (F_elementData_o0 : Fld Z h0 o0 c0_ "elementData" c3_ (.ref o1)) (V_o1 : Arv Z h0 o1 k0 (.object c1_) (10 : Int32) [(.ref o2), (.ref o3)] .null) :
    oM l y8_ jdk_38_method_18_code 2 (some (.object c1_)) ws (rM_ 0 0 0 0) #[(.ref o0), (.int (1 : Int32))] Z h0 (fun v h L => v = some (.ref o3) ∧ Fr n0 L ∧ h = h0) := by
  refine own_body c0_ (plainFor_of_name pn_35) (fun m => ef_35 m o0 (1 : Int32)) fun p e s m below meth c s₁ X0 H hnm Bret Blk e0 => ?_
  obtain ⟨hx, _, _, _, hby⟩ := id H
  have N0 := Fr.nil n0
  refine oG X0 H r35_0_0 1 #[rv o0, iv (1 : Int32)] [(.ref o0)] ?_
  refine oGf X0 H (hV hw 69) e0 F_elementData_o0 d35_1 fun T1 X1 e1 => ?_
  refine oG X1 H r35_4_4 5 #[rv o0, iv (1 : Int32)] [(.int (1 : Int32)), (.ref o1)] ?_
  refine oAal X1 H e1 V_o1 d35_5 (.ref o3) ?_
  exact own_retR X1 Blk hx Bret rfl rfl rfl (hb hby d35_6) (by
      try rw [show T1.heap = h0 from e1]
      exact ⟨rfl, N0, rfl⟩) dE_ dE_

set_option maxRecDepth 65536 in
set_option maxHeartbeats 40000000 in
theorem rm32_34 (hw : oW_ a0 Z) (Z0 : n0 ≤ h0.size) (E_o0 : Exa Z h0 o0 c0_) (F_elementData_o0 : Fld Z h0 o0 c0_ "elementData" c3_ (.ref o1)) (F_size_o0 : Fld Z h0 o0 c0_ "size" "I" (.int i0)) (V_o1 : Arv Z h0 o1 k0 (.object c1_) (10 : Int32) [(.ref o2), (.ref o3)] .null) (hp0 : (1 : Int32) < i0) :
    oM l y9_ jdk_38_method_20_code 2 (some (.object c1_)) ws (rM_ 2 0 0 27) #[(.ref o0), (.int (1 : Int32))] Z h0 (fun v h L => v = some (.ref o3) ∧ Fr n0 L ∧ h = h0) := by
  refine own_body c0_ (plainFor_of_name pn_32) (fun m => ef_32 m o0 (1 : Int32)) fun p e s m below meth c s₁ X0 H hnm Bret Blk e0 => ?_
  obtain ⟨hx, _, _, _, hby⟩ := id H
  have N0 := Fr.nil n0
  refine oG X0 H r32_0_1 2 #[rv o0, iv (1 : Int32)] [(.ref o0), (.int (1 : Int32))] ?_
  refine oGf X0 H (hV hw 98) e0 F_size_o0 d32_2 fun T1 X1 e1 => ?_
  refine ocS X1 H (wb10_ hw) (rm33_28 hw Z0 (by decide : ¬ ((1 : Int32) < (0 : Int32))) hp0) e1 0 [(.int (1 : Int32)), (.int i0)] [] pd_14 d32_5 fun T3 _ _ X3 hQ3 => ?_
  obtain ⟨rfl, N3, e3⟩ := hQ3
  replace N0 := Fr.app N0 N3
  refine oB_ (tF_ T3 (mkF m 9 #[rv o0, iv (1 : Int32)] [])) (fun t k => ?_) ?_
  · refine XS.pop X3.here hx rfl (hb hby d32_8) rfl rfl ?_
    exact k
  refine oH X3 H r32_9_10 11 [(.int (1 : Int32)), (.ref o0)] ?_
  refine ocV X3 H (wb11_ hw) (rm35_33 hw Z0 F_elementData_o0 V_o1) e3 0 o0 E_o0 [(.int (1 : Int32))] [] pd_24 d32_11 fun T5 _ _ X5 hQ5 => ?_
  obtain ⟨rfl, N5, e5⟩ := hQ5
  replace N0 := Fr.app N0 N5
  exact own_retR X5 Blk hx Bret rfl rfl rfl (hb hby d32_14) (by
      try rw [show T5.heap = h0 from e5]
      exact ⟨rfl, N0, rfl⟩) dE_ dE_

theorem r0_311_311 : oDec code [(311, .iload 17, 2)] := by decide +kernel
theorem r0_316_318 : oDec code [(316, .aload 15, 2), (318, .iconst 1, 1)] := by decide +kernel
theorem r0_324_326 : oDec code [(324, .aload 16, 2), (326, .iconst 1, 1)] := by decide +kernel
theorem r0_333_340 : oDec code [(333, .iconst 1, 1), (334, .goto 4, 3), (338, .istore 17, 2), (340, .aload 16, 2)] := by decide +kernel
set_option maxRecDepth 65536 in
set_option maxHeartbeats 40000000 in
theorem own_D2 {p : Program} {l : Launch} {e : Env} {s : State} {m : MethodId} {args : Array Value} {below : List Frame} {meth : Method} {c : Code} {s₁ : State} {locs : List Loc} {Z : State} {a0 : Array Value} {h0 h1 : Heap} {n0 : Nat} {vm1 : Vm} {kS : Nat} (p0 p1 : Int32) (p2 p3 : Int32) (p4 p5 nl : Int32) (xq x1 : Addr) (x2 x3 : Addr) (w0 w1 : Addr) (w2 lm : Addr) (la lb : Addr) (aa ab : Addr) (ka kb : ClassId) (e0_ e1_ : Addr)
    (X0 : Stand p l e room_1 (s.setVm vm1) m args below meth c s₁ locs 50 1000) (hx : p.tables.exec = Jvm.exec) (hZ : Z.Warmed39 (s.setVm vm1).vm) (hw : oW_ a0 Z) (hby : c.code = code) (hml : c.maxLocals = 18) (hown : (s.setVm vm1).vm.findClass c10_ = some m.cls) (hSi : s.Since vm1 kS) (Bret : meth.sig.returnType = some .boolean) (Blk : meth.locks = false) (e0 : s₁.heap = h1) (N0 : Fr n0 locs) (Z0 : n0 ≤ h1.size) (E_la : Exa Z h1 la c0_) (F_elementData_la : Fld Z h1 la c0_ "elementData" c3_ (.ref aa)) (F_size_la : Fld Z h1 la c0_ "size" "I" (.int (2 : Int32))) (E_lb : Exa Z h1 lb c0_) (F_elementData_lb : Fld Z h1 lb c0_ "elementData" c3_ (.ref ab)) (F_size_lb : Fld Z h1 lb c0_ "size" "I" (.int (2 : Int32))) (V_aa : Arv Z h1 aa ka (.object c1_) (10 : Int32) [(.ref e0_), (.ref e1_)] .null) (V_ab : Arv Z h1 ab kb (.object c1_) (10 : Int32) [(.ref e0_), (.ref e1_)] .null) (hk : kS ≤ h1.size) :
    own_Go p e below (own_PostW s (fun v h L => v = some (.int (1 : Int32)) ∧ Fr n0 L) room_1.cells room_1.slots) (s₁.setTop (mkF m 245 (lA10_ p0 p1 p2 p3 p4 p5 nl xq x1 x2 x3 w0 w1 w2 lm la lb) [])) := by
  have H : oH_ p _ m c Z _ _ _ := ⟨hx, hZ, hown, hml, hby⟩
  refine oG X0 H r0_245_245 247 (lA10_ p0 p1 p2 p3 p4 p5 nl xq x1 x2 x3 w0 w1 w2 lm la lb) [(.ref la)] ?_
  refine ocF X0 H (wb7_ hw) (rm30_26 hw Z0 F_size_la) e0 0 la E_la [] [] pd_23 at_247 fun T3 _ _ X3 hQ3 => ?_
  obtain ⟨rfl, N3, e3⟩ := hQ3
  replace N0 := Fr.app N0 N3
  refine oG X3 H r0_252_252 254 (lA10_ p0 p1 p2 p3 p4 p5 nl xq x1 x2 x3 w0 w1 w2 lm la lb) [(.ref lb), (.int (2 : Int32))] ?_
  refine ocV X3 H (wb8_ hw) (rm30_26 hw Z0 F_size_lb) e3 1 lb E_lb [] [(.int (2 : Int32))] pd_23 at_254 fun T5 _ _ X5 hQ5 => ?_
  obtain ⟨rfl, N5, e5⟩ := hQ5
  replace N0 := Fr.app N0 N5
  refine oCY X5 H oD0 at_257 262 (lA10_ p0 p1 p2 p3 p4 p5 nl xq x1 x2 x3 w0 w1 w2 lm la lb) [] rfl (teq (by decide : (2 : Int32) = (2 : Int32))).1 ?_
  refine oG X5 H r0_262_265 267 (lA11_ p0 p1 p2 p3 p4 p5 nl xq x1 x2 x3 w0 w1 w2 lm la lb (1 : Int32)) [(.ref lb)] ?_
  refine ocV X5 H (wb8_ hw) (rm30_26 hw Z0 F_size_lb) e5 0 lb E_lb [] [] pd_23 at_267 fun T7 _ _ X7 hQ7 => ?_
  obtain ⟨rfl, N7, e7⟩ := hQ7
  replace N0 := Fr.app N0 N7
  refine oIN X7 H oD0 at_270 (lA11_ p0 p1 p2 p3 p4 p5 nl xq x1 x2 x3 w0 w1 w2 lm la lb (1 : Int32)) [] rfl ((if0 _ _).trans (tlt (by decide : (0 : Int32) < (2 : Int32))).2.2.2) ?_
  refine oIN X7 H r0_273_273 at_275 (lA11_ p0 p1 p2 p3 p4 p5 nl xq x1 x2 x3 w0 w1 w2 lm la lb (1 : Int32)) [] rfl ((if0 _ _).trans (feq (by decide : ¬ ((1 : Int32) = (0 : Int32)))).1) ?_
  refine oH X7 H r0_278_280 281 [oZ, (.ref la)] ?_
  refine ocF X7 H (wb12_ hw) (rm32_32 hw Z0 E_la F_elementData_la F_size_la V_aa (by decide : (0 : Int32) < (2 : Int32))) e7 0 la E_la [oZ] [] pd_24 at_281 fun T9 _ _ X9 hQ9 => ?_
  obtain ⟨rfl, N9, e9⟩ := hQ9
  replace N0 := Fr.app N0 N9
  refine oG X9 H r0_286_288 289 (lA11_ p0 p1 p2 p3 p4 p5 nl xq x1 x2 x3 w0 w1 w2 lm la lb (1 : Int32)) [oZ, (.ref lb), (.ref e0_)] ?_
  refine ocV X9 H (wb13_ hw) (rm32_32 hw Z0 E_lb F_elementData_lb F_size_lb V_ab (by decide : (0 : Int32) < (2 : Int32))) e9 1 lb E_lb [oZ] [(.ref e0_)] pd_24 at_289 fun T11 _ _ X11 hQ11 => ?_
  obtain ⟨rfl, N11, e11⟩ := hQ11
  replace N0 := Fr.app N0 N11
  refine own_by (fun t k => Jvm.RoadKit.acmp (g := (mkF m 292 (lA11_ p0 p1 p2 p3 p4 p5 nl xq x1 x2 x3 w0 w1 w2 lm la lb (1 : Int32)) [(.ref e0_), (.ref e0_)])) X11 hx rfl rfl rfl (pc0 := 292) (pc' := 295) (same := true) rfl (hb hby at_292) rfl (decide_eq_true rfl) dE_ dE_ k) ?_
  refine oG X11 H r0_295_302 304 (lA11_ p0 p1 p2 p3 p4 p5 nl xq x1 x2 x3 w0 w1 w2 lm la lb (1 : Int32)) [(.ref lb)] ?_
  refine ocV X11 H (wb8_ hw) (rm30_26 hw Z0 F_size_lb) e11 0 lb E_lb [] [] pd_23 at_304 fun T13 _ _ X13 hQ13 => ?_
  obtain ⟨rfl, N13, e13⟩ := hQ13
  replace N0 := Fr.app N0 N13
  refine oCN X13 H r0_307_307 at_308 (lA11_ p0 p1 p2 p3 p4 p5 nl xq x1 x2 x3 w0 w1 w2 lm la lb (1 : Int32)) [] rfl (tlt (by decide : (1 : Int32) < (2 : Int32))).2.2.2 ?_
  refine oIN X13 H r0_311_311 at_313 (lA11_ p0 p1 p2 p3 p4 p5 nl xq x1 x2 x3 w0 w1 w2 lm la lb (1 : Int32)) [] rfl ((if0 _ _).trans (feq (by decide : ¬ ((1 : Int32) = (0 : Int32)))).1) ?_
  refine oH X13 H r0_316_318 319 [(.int (1 : Int32)), (.ref la)] ?_
  refine ocF X13 H (wb12_ hw) (rm32_34 hw Z0 E_la F_elementData_la F_size_la V_aa (by decide : (1 : Int32) < (2 : Int32))) e13 0 la E_la [(.int (1 : Int32))] [] pd_24 at_319 fun T15 _ _ X15 hQ15 => ?_
  obtain ⟨rfl, N15, e15⟩ := hQ15
  replace N0 := Fr.app N0 N15
  refine oG X15 H r0_324_326 327 (lA11_ p0 p1 p2 p3 p4 p5 nl xq x1 x2 x3 w0 w1 w2 lm la lb (1 : Int32)) [(.int (1 : Int32)), (.ref lb), (.ref e1_)] ?_
  refine ocV X15 H (wb13_ hw) (rm32_34 hw Z0 E_lb F_elementData_lb F_size_lb V_ab (by decide : (1 : Int32) < (2 : Int32))) e15 1 lb E_lb [(.int (1 : Int32))] [(.ref e1_)] pd_24 at_327 fun T17 _ _ X17 hQ17 => ?_
  obtain ⟨rfl, N17, e17⟩ := hQ17
  replace N0 := Fr.app N0 N17
  refine own_by (fun t k => Jvm.RoadKit.acmp (g := (mkF m 330 (lA11_ p0 p1 p2 p3 p4 p5 nl xq x1 x2 x3 w0 w1 w2 lm la lb (1 : Int32)) [(.ref e1_), (.ref e1_)])) X17 hx rfl rfl rfl (pc0 := 330) (pc' := 333) (same := true) rfl (hb hby at_330) rfl (decide_eq_true rfl) dE_ dE_ k) ?_
  refine oG X17 H r0_333_340 342 (lA11_ p0 p1 p2 p3 p4 p5 nl xq x1 x2 x3 w0 w1 w2 lm la lb (1 : Int32)) [(.ref lb)] ?_
  refine ocV X17 H (wb8_ hw) (rm30_26 hw Z0 F_size_lb) e17 0 lb E_lb [] [] pd_23 at_342 fun T19 _ _ X19 hQ19 => ?_
  obtain ⟨rfl, N19, e19⟩ := hQ19
  replace N0 := Fr.app N0 N19
  refine oCY X19 H r0_345_345 at_346 378 (lA11_ p0 p1 p2 p3 p4 p5 nl xq x1 x2 x3 w0 w1 w2 lm la lb (1 : Int32)) [] rfl (flt (by decide : ¬ ((2 : Int32) < (2 : Int32)))).2.2.2 ?_
  refine oH X19 H r0_378_378 380 [(.int (1 : Int32))] ?_
  exact own_retNW X19 Blk hx (t := .boolean) Bret (by simp) (hb hby at_380) hSi (by rw [show T19.heap = h1 from e19]; exact hk) (by
      try rw [show T19.heap = h1 from e19]
      exact ⟨rfl, N0⟩) dE_ dE_

set_option maxRecDepth 65536 in
set_option maxHeartbeats 40000000 in
theorem rm35_35 (hw : oW_ a0 Z) (Z0 : n0 ≤ h0.size) (F_elementData_o0 : Fld Z h0 o0 c0_ "elementData" c3_ (.ref o1)) (V_o1 : Arv Z h0 o1 k0 (.object c1_) (10 : Int32) [(.ref o2), (.ref o3), (.ref o4)] .null) :
    oM l y8_ jdk_38_method_18_code 2 (some (.object c1_)) ws (rM_ 0 0 0 0) #[(.ref o0), oZ] Z h0 (fun v h L => v = some (.ref o2) ∧ Fr n0 L ∧ h = h0) := by
  refine own_body c0_ (plainFor_of_name pn_35) (fun m => ef_35 m o0 (0 : Int32)) fun p e s m below meth c s₁ X0 H hnm Bret Blk e0 => ?_
  obtain ⟨hx, _, _, _, hby⟩ := id H
  have N0 := Fr.nil n0
  refine oG X0 H r35_0_0 1 #[rv o0, iv (0 : Int32)] [(.ref o0)] ?_
  refine oGf X0 H (hV hw 69) e0 F_elementData_o0 d35_1 fun T1 X1 e1 => ?_
  refine oG X1 H r35_4_4 5 #[rv o0, iv (0 : Int32)] [oZ, (.ref o1)] ?_
  refine oAal X1 H e1 V_o1 d35_5 (.ref o2) ?_
  exact own_retR X1 Blk hx Bret rfl rfl rfl (hb hby d35_6) (by
      try rw [show T1.heap = h0 from e1]
      exact ⟨rfl, N0, rfl⟩) dE_ dE_

set_option maxRecDepth 65536 in
set_option maxHeartbeats 40000000 in
theorem rm32_36 (hw : oW_ a0 Z) (Z0 : n0 ≤ h0.size) (E_o0 : Exa Z h0 o0 c0_) (F_elementData_o0 : Fld Z h0 o0 c0_ "elementData" c3_ (.ref o1)) (F_size_o0 : Fld Z h0 o0 c0_ "size" "I" (.int i0)) (V_o1 : Arv Z h0 o1 k0 (.object c1_) (10 : Int32) [(.ref o2), (.ref o3), (.ref o4)] .null) (hp0 : (0 : Int32) < i0) :
    oM l y9_ jdk_38_method_20_code 2 (some (.object c1_)) ws (rM_ 2 0 0 27) #[(.ref o0), oZ] Z h0 (fun v h L => v = some (.ref o2) ∧ Fr n0 L ∧ h = h0) := by
  refine own_body c0_ (plainFor_of_name pn_32) (fun m => ef_32 m o0 (0 : Int32)) fun p e s m below meth c s₁ X0 H hnm Bret Blk e0 => ?_
  obtain ⟨hx, _, _, _, hby⟩ := id H
  have N0 := Fr.nil n0
  refine oG X0 H r32_0_1 2 #[rv o0, iv (0 : Int32)] [(.ref o0), oZ] ?_
  refine oGf X0 H (hV hw 98) e0 F_size_o0 d32_2 fun T1 X1 e1 => ?_
  refine ocS X1 H (wb10_ hw) (rm33_28 hw Z0 (by decide : ¬ ((0 : Int32) < (0 : Int32))) hp0) e1 0 [oZ, (.int i0)] [] pd_14 d32_5 fun T3 _ _ X3 hQ3 => ?_
  obtain ⟨rfl, N3, e3⟩ := hQ3
  replace N0 := Fr.app N0 N3
  refine oB_ (tF_ T3 (mkF m 9 #[rv o0, iv (0 : Int32)] [])) (fun t k => ?_) ?_
  · refine XS.pop X3.here hx rfl (hb hby d32_8) rfl rfl ?_
    exact k
  refine oH X3 H r32_9_10 11 [oZ, (.ref o0)] ?_
  refine ocV X3 H (wb11_ hw) (rm35_35 hw Z0 F_elementData_o0 V_o1) e3 0 o0 E_o0 [oZ] [] pd_24 d32_11 fun T5 _ _ X5 hQ5 => ?_
  obtain ⟨rfl, N5, e5⟩ := hQ5
  replace N0 := Fr.app N0 N5
  exact own_retR X5 Blk hx Bret rfl rfl rfl (hb hby d32_14) (by
      try rw [show T5.heap = h0 from e5]
      exact ⟨rfl, N0, rfl⟩) dE_ dE_

set_option maxRecDepth 65536 in
set_option maxHeartbeats 40000000 in
theorem rm35_37 (hw : oW_ a0 Z) (Z0 : n0 ≤ h0.size) (F_elementData_o0 : Fld Z h0 o0 c0_ "elementData" c3_ (.ref o1)) (V_o1 : Arv Z h0 o1 k0 (.object c1_) (10 : Int32) [(.ref o2), (.ref o3), (.ref o4)] .null) :
    oM l y8_ jdk_38_method_18_code 2 (some (.object c1_)) ws (rM_ 0 0 0 0) #[(.ref o0), (.int (1 : Int32))] Z h0 (fun v h L => v = some (.ref o3) ∧ Fr n0 L ∧ h = h0) := by
  refine own_body c0_ (plainFor_of_name pn_35) (fun m => ef_35 m o0 (1 : Int32)) fun p e s m below meth c s₁ X0 H hnm Bret Blk e0 => ?_
  obtain ⟨hx, _, _, _, hby⟩ := id H
  have N0 := Fr.nil n0
  refine oG X0 H r35_0_0 1 #[rv o0, iv (1 : Int32)] [(.ref o0)] ?_
  refine oGf X0 H (hV hw 69) e0 F_elementData_o0 d35_1 fun T1 X1 e1 => ?_
  refine oG X1 H r35_4_4 5 #[rv o0, iv (1 : Int32)] [(.int (1 : Int32)), (.ref o1)] ?_
  refine oAal X1 H e1 V_o1 d35_5 (.ref o3) ?_
  exact own_retR X1 Blk hx Bret rfl rfl rfl (hb hby d35_6) (by
      try rw [show T1.heap = h0 from e1]
      exact ⟨rfl, N0, rfl⟩) dE_ dE_

set_option maxRecDepth 65536 in
set_option maxHeartbeats 40000000 in
theorem rm32_38 (hw : oW_ a0 Z) (Z0 : n0 ≤ h0.size) (E_o0 : Exa Z h0 o0 c0_) (F_elementData_o0 : Fld Z h0 o0 c0_ "elementData" c3_ (.ref o1)) (F_size_o0 : Fld Z h0 o0 c0_ "size" "I" (.int i0)) (V_o1 : Arv Z h0 o1 k0 (.object c1_) (10 : Int32) [(.ref o2), (.ref o3), (.ref o4)] .null) (hp0 : (1 : Int32) < i0) :
    oM l y9_ jdk_38_method_20_code 2 (some (.object c1_)) ws (rM_ 2 0 0 27) #[(.ref o0), (.int (1 : Int32))] Z h0 (fun v h L => v = some (.ref o3) ∧ Fr n0 L ∧ h = h0) := by
  refine own_body c0_ (plainFor_of_name pn_32) (fun m => ef_32 m o0 (1 : Int32)) fun p e s m below meth c s₁ X0 H hnm Bret Blk e0 => ?_
  obtain ⟨hx, _, _, _, hby⟩ := id H
  have N0 := Fr.nil n0
  refine oG X0 H r32_0_1 2 #[rv o0, iv (1 : Int32)] [(.ref o0), (.int (1 : Int32))] ?_
  refine oGf X0 H (hV hw 98) e0 F_size_o0 d32_2 fun T1 X1 e1 => ?_
  refine ocS X1 H (wb10_ hw) (rm33_28 hw Z0 (by decide : ¬ ((1 : Int32) < (0 : Int32))) hp0) e1 0 [(.int (1 : Int32)), (.int i0)] [] pd_14 d32_5 fun T3 _ _ X3 hQ3 => ?_
  obtain ⟨rfl, N3, e3⟩ := hQ3
  replace N0 := Fr.app N0 N3
  refine oB_ (tF_ T3 (mkF m 9 #[rv o0, iv (1 : Int32)] [])) (fun t k => ?_) ?_
  · refine XS.pop X3.here hx rfl (hb hby d32_8) rfl rfl ?_
    exact k
  refine oH X3 H r32_9_10 11 [(.int (1 : Int32)), (.ref o0)] ?_
  refine ocV X3 H (wb11_ hw) (rm35_37 hw Z0 F_elementData_o0 V_o1) e3 0 o0 E_o0 [(.int (1 : Int32))] [] pd_24 d32_11 fun T5 _ _ X5 hQ5 => ?_
  obtain ⟨rfl, N5, e5⟩ := hQ5
  replace N0 := Fr.app N0 N5
  exact own_retR X5 Blk hx Bret rfl rfl rfl (hb hby d32_14) (by
      try rw [show T5.heap = h0 from e5]
      exact ⟨rfl, N0, rfl⟩) dE_ dE_

set_option maxRecDepth 65536 in
set_option maxHeartbeats 40000000 in
theorem rm35_39 (hw : oW_ a0 Z) (Z0 : n0 ≤ h0.size) (F_elementData_o0 : Fld Z h0 o0 c0_ "elementData" c3_ (.ref o1)) (V_o1 : Arv Z h0 o1 k0 (.object c1_) (10 : Int32) [(.ref o2), (.ref o3), (.ref o4)] .null) :
    oM l y8_ jdk_38_method_18_code 2 (some (.object c1_)) ws (rM_ 0 0 0 0) #[(.ref o0), (.int (2 : Int32))] Z h0 (fun v h L => v = some (.ref o4) ∧ Fr n0 L ∧ h = h0) := by
  refine own_body c0_ (plainFor_of_name pn_35) (fun m => ef_35 m o0 (2 : Int32)) fun p e s m below meth c s₁ X0 H hnm Bret Blk e0 => ?_
  obtain ⟨hx, _, _, _, hby⟩ := id H
  have N0 := Fr.nil n0
  refine oG X0 H r35_0_0 1 #[rv o0, iv (2 : Int32)] [(.ref o0)] ?_
  refine oGf X0 H (hV hw 69) e0 F_elementData_o0 d35_1 fun T1 X1 e1 => ?_
  refine oG X1 H r35_4_4 5 #[rv o0, iv (2 : Int32)] [(.int (2 : Int32)), (.ref o1)] ?_
  refine oAal X1 H e1 V_o1 d35_5 (.ref o4) ?_
  exact own_retR X1 Blk hx Bret rfl rfl rfl (hb hby d35_6) (by
      try rw [show T1.heap = h0 from e1]
      exact ⟨rfl, N0, rfl⟩) dE_ dE_

set_option maxRecDepth 65536 in
set_option maxHeartbeats 40000000 in
theorem rm32_40 (hw : oW_ a0 Z) (Z0 : n0 ≤ h0.size) (E_o0 : Exa Z h0 o0 c0_) (F_elementData_o0 : Fld Z h0 o0 c0_ "elementData" c3_ (.ref o1)) (F_size_o0 : Fld Z h0 o0 c0_ "size" "I" (.int i0)) (V_o1 : Arv Z h0 o1 k0 (.object c1_) (10 : Int32) [(.ref o2), (.ref o3), (.ref o4)] .null) (hp0 : (2 : Int32) < i0) :
    oM l y9_ jdk_38_method_20_code 2 (some (.object c1_)) ws (rM_ 2 0 0 27) #[(.ref o0), (.int (2 : Int32))] Z h0 (fun v h L => v = some (.ref o4) ∧ Fr n0 L ∧ h = h0) := by
  refine own_body c0_ (plainFor_of_name pn_32) (fun m => ef_32 m o0 (2 : Int32)) fun p e s m below meth c s₁ X0 H hnm Bret Blk e0 => ?_
  obtain ⟨hx, _, _, _, hby⟩ := id H
  have N0 := Fr.nil n0
  refine oG X0 H r32_0_1 2 #[rv o0, iv (2 : Int32)] [(.ref o0), (.int (2 : Int32))] ?_
  refine oGf X0 H (hV hw 98) e0 F_size_o0 d32_2 fun T1 X1 e1 => ?_
  refine ocS X1 H (wb10_ hw) (rm33_28 hw Z0 (by decide : ¬ ((2 : Int32) < (0 : Int32))) hp0) e1 0 [(.int (2 : Int32)), (.int i0)] [] pd_14 d32_5 fun T3 _ _ X3 hQ3 => ?_
  obtain ⟨rfl, N3, e3⟩ := hQ3
  replace N0 := Fr.app N0 N3
  refine oB_ (tF_ T3 (mkF m 9 #[rv o0, iv (2 : Int32)] [])) (fun t k => ?_) ?_
  · refine XS.pop X3.here hx rfl (hb hby d32_8) rfl rfl ?_
    exact k
  refine oH X3 H r32_9_10 11 [(.int (2 : Int32)), (.ref o0)] ?_
  refine ocV X3 H (wb11_ hw) (rm35_39 hw Z0 F_elementData_o0 V_o1) e3 0 o0 E_o0 [(.int (2 : Int32))] [] pd_24 d32_11 fun T5 _ _ X5 hQ5 => ?_
  obtain ⟨rfl, N5, e5⟩ := hQ5
  replace N0 := Fr.app N0 N5
  exact own_retR X5 Blk hx Bret rfl rfl rfl (hb hby d32_14) (by
      try rw [show T5.heap = h0 from e5]
      exact ⟨rfl, N0, rfl⟩) dE_ dE_

theorem r0_349_349 : oDec code [(349, .iload 17, 2)] := by decide +kernel
theorem r0_354_356 : oDec code [(354, .aload 15, 2), (356, .iconst 2, 1)] := by decide +kernel
theorem r0_362_364 : oDec code [(362, .aload 16, 2), (364, .iconst 2, 1)] := by decide +kernel
theorem r0_371_378 : oDec code [(371, .iconst 1, 1), (372, .goto 4, 3), (376, .istore 17, 2), (378, .iload 17, 2)] := by decide +kernel
set_option maxRecDepth 65536 in
set_option maxHeartbeats 40000000 in
theorem own_D3 {p : Program} {l : Launch} {e : Env} {s : State} {m : MethodId} {args : Array Value} {below : List Frame} {meth : Method} {c : Code} {s₁ : State} {locs : List Loc} {Z : State} {a0 : Array Value} {h0 h1 : Heap} {n0 : Nat} {vm1 : Vm} {kS : Nat} (p0 p1 : Int32) (p2 p3 : Int32) (p4 p5 nl : Int32) (xq x1 : Addr) (x2 x3 : Addr) (w0 w1 : Addr) (w2 lm : Addr) (la lb : Addr) (aa ab : Addr) (ka kb : ClassId) (e0_ e1_ e2_ : Addr)
    (X0 : Stand p l e room_1 (s.setVm vm1) m args below meth c s₁ locs 50 1000) (hx : p.tables.exec = Jvm.exec) (hZ : Z.Warmed39 (s.setVm vm1).vm) (hw : oW_ a0 Z) (hby : c.code = code) (hml : c.maxLocals = 18) (hown : (s.setVm vm1).vm.findClass c10_ = some m.cls) (hSi : s.Since vm1 kS) (Bret : meth.sig.returnType = some .boolean) (Blk : meth.locks = false) (e0 : s₁.heap = h1) (N0 : Fr n0 locs) (Z0 : n0 ≤ h1.size) (E_la : Exa Z h1 la c0_) (F_elementData_la : Fld Z h1 la c0_ "elementData" c3_ (.ref aa)) (F_size_la : Fld Z h1 la c0_ "size" "I" (.int (3 : Int32))) (E_lb : Exa Z h1 lb c0_) (F_elementData_lb : Fld Z h1 lb c0_ "elementData" c3_ (.ref ab)) (F_size_lb : Fld Z h1 lb c0_ "size" "I" (.int (3 : Int32))) (V_aa : Arv Z h1 aa ka (.object c1_) (10 : Int32) [(.ref e0_), (.ref e1_), (.ref e2_)] .null) (V_ab : Arv Z h1 ab kb (.object c1_) (10 : Int32) [(.ref e0_), (.ref e1_), (.ref e2_)] .null) (hk : kS ≤ h1.size) :
    own_Go p e below (own_PostW s (fun v h L => v = some (.int (1 : Int32)) ∧ Fr n0 L) room_1.cells room_1.slots) (s₁.setTop (mkF m 245 (lA10_ p0 p1 p2 p3 p4 p5 nl xq x1 x2 x3 w0 w1 w2 lm la lb) [])) := by
  have H : oH_ p _ m c Z _ _ _ := ⟨hx, hZ, hown, hml, hby⟩
  refine oG X0 H r0_245_245 247 (lA10_ p0 p1 p2 p3 p4 p5 nl xq x1 x2 x3 w0 w1 w2 lm la lb) [(.ref la)] ?_
  refine ocF X0 H (wb7_ hw) (rm30_26 hw Z0 F_size_la) e0 0 la E_la [] [] pd_23 at_247 fun T3 _ _ X3 hQ3 => ?_
  obtain ⟨rfl, N3, e3⟩ := hQ3
  replace N0 := Fr.app N0 N3
  refine oG X3 H r0_252_252 254 (lA10_ p0 p1 p2 p3 p4 p5 nl xq x1 x2 x3 w0 w1 w2 lm la lb) [(.ref lb), (.int (3 : Int32))] ?_
  refine ocV X3 H (wb8_ hw) (rm30_26 hw Z0 F_size_lb) e3 1 lb E_lb [] [(.int (3 : Int32))] pd_23 at_254 fun T5 _ _ X5 hQ5 => ?_
  obtain ⟨rfl, N5, e5⟩ := hQ5
  replace N0 := Fr.app N0 N5
  refine oCY X5 H oD0 at_257 262 (lA10_ p0 p1 p2 p3 p4 p5 nl xq x1 x2 x3 w0 w1 w2 lm la lb) [] rfl (teq (by decide : (3 : Int32) = (3 : Int32))).1 ?_
  refine oG X5 H r0_262_265 267 (lA11_ p0 p1 p2 p3 p4 p5 nl xq x1 x2 x3 w0 w1 w2 lm la lb (1 : Int32)) [(.ref lb)] ?_
  refine ocV X5 H (wb8_ hw) (rm30_26 hw Z0 F_size_lb) e5 0 lb E_lb [] [] pd_23 at_267 fun T7 _ _ X7 hQ7 => ?_
  obtain ⟨rfl, N7, e7⟩ := hQ7
  replace N0 := Fr.app N0 N7
  refine oIN X7 H oD0 at_270 (lA11_ p0 p1 p2 p3 p4 p5 nl xq x1 x2 x3 w0 w1 w2 lm la lb (1 : Int32)) [] rfl ((if0 _ _).trans (tlt (by decide : (0 : Int32) < (3 : Int32))).2.2.2) ?_
  refine oIN X7 H r0_273_273 at_275 (lA11_ p0 p1 p2 p3 p4 p5 nl xq x1 x2 x3 w0 w1 w2 lm la lb (1 : Int32)) [] rfl ((if0 _ _).trans (feq (by decide : ¬ ((1 : Int32) = (0 : Int32)))).1) ?_
  refine oH X7 H r0_278_280 281 [oZ, (.ref la)] ?_
  refine ocF X7 H (wb12_ hw) (rm32_36 hw Z0 E_la F_elementData_la F_size_la V_aa (by decide : (0 : Int32) < (3 : Int32))) e7 0 la E_la [oZ] [] pd_24 at_281 fun T9 _ _ X9 hQ9 => ?_
  obtain ⟨rfl, N9, e9⟩ := hQ9
  replace N0 := Fr.app N0 N9
  refine oG X9 H r0_286_288 289 (lA11_ p0 p1 p2 p3 p4 p5 nl xq x1 x2 x3 w0 w1 w2 lm la lb (1 : Int32)) [oZ, (.ref lb), (.ref e0_)] ?_
  refine ocV X9 H (wb13_ hw) (rm32_36 hw Z0 E_lb F_elementData_lb F_size_lb V_ab (by decide : (0 : Int32) < (3 : Int32))) e9 1 lb E_lb [oZ] [(.ref e0_)] pd_24 at_289 fun T11 _ _ X11 hQ11 => ?_
  obtain ⟨rfl, N11, e11⟩ := hQ11
  replace N0 := Fr.app N0 N11
  refine own_by (fun t k => Jvm.RoadKit.acmp (g := (mkF m 292 (lA11_ p0 p1 p2 p3 p4 p5 nl xq x1 x2 x3 w0 w1 w2 lm la lb (1 : Int32)) [(.ref e0_), (.ref e0_)])) X11 hx rfl rfl rfl (pc0 := 292) (pc' := 295) (same := true) rfl (hb hby at_292) rfl (decide_eq_true rfl) dE_ dE_ k) ?_
  refine oG X11 H r0_295_302 304 (lA11_ p0 p1 p2 p3 p4 p5 nl xq x1 x2 x3 w0 w1 w2 lm la lb (1 : Int32)) [(.ref lb)] ?_
  refine ocV X11 H (wb8_ hw) (rm30_26 hw Z0 F_size_lb) e11 0 lb E_lb [] [] pd_23 at_304 fun T13 _ _ X13 hQ13 => ?_
  obtain ⟨rfl, N13, e13⟩ := hQ13
  replace N0 := Fr.app N0 N13
  refine oCN X13 H r0_307_307 at_308 (lA11_ p0 p1 p2 p3 p4 p5 nl xq x1 x2 x3 w0 w1 w2 lm la lb (1 : Int32)) [] rfl (tlt (by decide : (1 : Int32) < (3 : Int32))).2.2.2 ?_
  refine oIN X13 H r0_311_311 at_313 (lA11_ p0 p1 p2 p3 p4 p5 nl xq x1 x2 x3 w0 w1 w2 lm la lb (1 : Int32)) [] rfl ((if0 _ _).trans (feq (by decide : ¬ ((1 : Int32) = (0 : Int32)))).1) ?_
  refine oH X13 H r0_316_318 319 [(.int (1 : Int32)), (.ref la)] ?_
  refine ocF X13 H (wb12_ hw) (rm32_38 hw Z0 E_la F_elementData_la F_size_la V_aa (by decide : (1 : Int32) < (3 : Int32))) e13 0 la E_la [(.int (1 : Int32))] [] pd_24 at_319 fun T15 _ _ X15 hQ15 => ?_
  obtain ⟨rfl, N15, e15⟩ := hQ15
  replace N0 := Fr.app N0 N15
  refine oG X15 H r0_324_326 327 (lA11_ p0 p1 p2 p3 p4 p5 nl xq x1 x2 x3 w0 w1 w2 lm la lb (1 : Int32)) [(.int (1 : Int32)), (.ref lb), (.ref e1_)] ?_
  refine ocV X15 H (wb13_ hw) (rm32_38 hw Z0 E_lb F_elementData_lb F_size_lb V_ab (by decide : (1 : Int32) < (3 : Int32))) e15 1 lb E_lb [(.int (1 : Int32))] [(.ref e1_)] pd_24 at_327 fun T17 _ _ X17 hQ17 => ?_
  obtain ⟨rfl, N17, e17⟩ := hQ17
  replace N0 := Fr.app N0 N17
  refine own_by (fun t k => Jvm.RoadKit.acmp (g := (mkF m 330 (lA11_ p0 p1 p2 p3 p4 p5 nl xq x1 x2 x3 w0 w1 w2 lm la lb (1 : Int32)) [(.ref e1_), (.ref e1_)])) X17 hx rfl rfl rfl (pc0 := 330) (pc' := 333) (same := true) rfl (hb hby at_330) rfl (decide_eq_true rfl) dE_ dE_ k) ?_
  refine oG X17 H r0_333_340 342 (lA11_ p0 p1 p2 p3 p4 p5 nl xq x1 x2 x3 w0 w1 w2 lm la lb (1 : Int32)) [(.ref lb)] ?_
  refine ocV X17 H (wb8_ hw) (rm30_26 hw Z0 F_size_lb) e17 0 lb E_lb [] [] pd_23 at_342 fun T19 _ _ X19 hQ19 => ?_
  obtain ⟨rfl, N19, e19⟩ := hQ19
  replace N0 := Fr.app N0 N19
  refine oCN X19 H r0_345_345 at_346 (lA11_ p0 p1 p2 p3 p4 p5 nl xq x1 x2 x3 w0 w1 w2 lm la lb (1 : Int32)) [] rfl (tlt (by decide : (2 : Int32) < (3 : Int32))).2.2.2 ?_
  refine oIN X19 H r0_349_349 at_351 (lA11_ p0 p1 p2 p3 p4 p5 nl xq x1 x2 x3 w0 w1 w2 lm la lb (1 : Int32)) [] rfl ((if0 _ _).trans (feq (by decide : ¬ ((1 : Int32) = (0 : Int32)))).1) ?_
  refine oH X19 H r0_354_356 357 [(.int (2 : Int32)), (.ref la)] ?_
  refine ocF X19 H (wb12_ hw) (rm32_40 hw Z0 E_la F_elementData_la F_size_la V_aa (by decide : (2 : Int32) < (3 : Int32))) e19 0 la E_la [(.int (2 : Int32))] [] pd_24 at_357 fun T21 _ _ X21 hQ21 => ?_
  obtain ⟨rfl, N21, e21⟩ := hQ21
  replace N0 := Fr.app N0 N21
  refine oG X21 H r0_362_364 365 (lA11_ p0 p1 p2 p3 p4 p5 nl xq x1 x2 x3 w0 w1 w2 lm la lb (1 : Int32)) [(.int (2 : Int32)), (.ref lb), (.ref e2_)] ?_
  refine ocV X21 H (wb13_ hw) (rm32_40 hw Z0 E_lb F_elementData_lb F_size_lb V_ab (by decide : (2 : Int32) < (3 : Int32))) e21 1 lb E_lb [(.int (2 : Int32))] [(.ref e2_)] pd_24 at_365 fun T23 _ _ X23 hQ23 => ?_
  obtain ⟨rfl, N23, e23⟩ := hQ23
  replace N0 := Fr.app N0 N23
  refine own_by (fun t k => Jvm.RoadKit.acmp (g := (mkF m 368 (lA11_ p0 p1 p2 p3 p4 p5 nl xq x1 x2 x3 w0 w1 w2 lm la lb (1 : Int32)) [(.ref e2_), (.ref e2_)])) X23 hx rfl rfl rfl (pc0 := 368) (pc' := 371) (same := true) rfl (hb hby at_368) rfl (decide_eq_true rfl) dE_ dE_ k) ?_
  refine oG X23 H r0_371_378 380 (lA11_ p0 p1 p2 p3 p4 p5 nl xq x1 x2 x3 w0 w1 w2 lm la lb (1 : Int32)) [(.int (1 : Int32))] ?_
  exact own_retNW X23 Blk hx (t := .boolean) Bret (by simp) (hb hby at_380) hSi (by rw [show T23.heap = h1 from e23]; exact hk) (by
      try rw [show T23.heap = h1 from e23]
      exact ⟨rfl, N0⟩) dE_ dE_

theorem d12_0 : dC15_ 0 (.aload_n 0, 1) := by decide +kernel
theorem d12_1 : dC15_ 1 (.invokespecial 1, 3) := by decide +kernel
theorem d12_4 : dC15_ 4 (.return_, 1) := by decide +kernel
theorem r12_0_0 : oDec jdk_22_method_1_code [(0, .aload_n 0, 1)] := by decide +kernel
theorem pn_12 : plainName "java/util/AbstractCollection" = true := by first | (simp [plainName, overriddenIn]; done) | decide +kernel
theorem ef_12 (m : MethodId) (x0 : Addr) : entryFrame m #[(.ref x0)] 1 = mkF m 0 #[rv x0] [] := by first | (simp [entryFrame, mkF, argsToLocals, Value.category]; done) | rfl
set_option maxRecDepth 65536 in
set_option maxHeartbeats 40000000 in
theorem rm12_41 (hw : oW_ a0 Z) (Z0 : n0 ≤ h0.size) :
    oM l (⟨c38_, "<init>", "()V"⟩ : MethodName) jdk_22_method_1_code 1 none ws (rM_ 1 0 0 12) #[(.ref o0)] Z h0 (fun v h L => v = none ∧ Fr n0 L ∧ h = h0) := by
  refine own_body c38_ (plainFor_of_name pn_12) (fun m => ef_12 m o0) fun p e s m below meth c s₁ X0 H hnm Bret Blk e0 => ?_
  obtain ⟨hx, hZ, hown, hml, hby⟩ := id H
  have N0 := Fr.nil n0
  refine oG X0 H r12_0_0 1 #[rv o0] [(.ref o0)] ?_
  refine own_c1 (initO X0 hx hZ hown (hV hw 65) (hV hw 16) (hV hw 17) e0 rfl (by rw [hml]; rfl) rfl (hb hby d12_1) dE_ (W := 0) (by show 2 * 0 + _ ≤ _; exact Nat.le_of_eq rfl) dE_) fun T2 X2 e2 => ?_
  show own_Go p e below _ (T2.setTop (mkF m 4 #[rv o0] []))
  exact own_retV X2 Blk hx Bret (hb hby d12_4) (by
      try rw [show T2.heap = h0 from e2]
      exact ⟨rfl, N0, rfl⟩) dE_ dE_

theorem d11_0 : dC16_ 0 (.aload_n 0, 1) := by decide +kernel
theorem d11_1 : dC16_ 1 (.invokespecial 1, 3) := by decide +kernel
theorem d11_4 : dC16_ 4 (.aload_n 0, 1) := by decide +kernel
theorem d11_5 : dC16_ 5 (.iconst 0, 1) := by decide +kernel
theorem d11_6 : dC16_ 6 (.putfield 7, 3) := by decide +kernel
theorem d11_9 : dC16_ 9 (.return_, 1) := by decide +kernel
theorem r11_0_0 : oDec jdk_39_method_1_code [(0, .aload_n 0, 1)] := by decide +kernel
theorem r11_4_5 : oDec jdk_39_method_1_code [(4, .aload_n 0, 1), (5, .iconst 0, 1)] := by decide +kernel
theorem pn_11 : plainName "java/util/AbstractList" = true := by first | (simp [plainName, overriddenIn]; done) | decide +kernel
theorem pd_3 : parseMethodDescriptor "()V" = some ⟨[], none⟩ := by decide +kernel
theorem ef_11 (m : MethodId) (x0 : Addr) : entryFrame m #[(.ref x0)] 1 = mkF m 0 #[rv x0] [] := by first | (simp [entryFrame, mkF, argsToLocals, Value.category]; done) | rfl
set_option maxRecDepth 65536 in
set_option maxHeartbeats 40000000 in
theorem rm11_42 (hw : oW_ a0 Z) (Z0 : n0 ≤ h0.size) (g_o0 : n0 ≤ o0) (E_o0 : Exa Z h0 o0 c0_) (F_modCount_o0 : Fld Z h0 o0 c4_ "modCount" "I" (.int i0)) (F_elementData_o0 : Fld Z h0 o0 c0_ "elementData" c3_ .null) (F_size_o0 : Fld Z h0 o0 c0_ "size" "I" (.int i1)) :
    oM l (⟨c4_, "<init>", "()V"⟩ : MethodName) jdk_39_method_1_code 1 none ws (rM_ 2 0 0 24) #[(.ref o0)] Z h0 (fun v h L => v = none ∧ Fr n0 L ∧ Keep h0 h [o0] ∧ Exa Z h o0 c0_ ∧ Fld Z h o0 c4_ "modCount" "I" oZ ∧ Fld Z h o0 c0_ "elementData" c3_ .null ∧ Fld Z h o0 c0_ "size" "I" (.int i1)) := by
  refine own_body c4_ (plainFor_of_name pn_11) (fun m => ef_11 m o0) fun p e s m below meth c s₁ X0 H hnm Bret Blk e0 => ?_
  obtain ⟨hx, hZ, hown, _, hby⟩ := id H
  have N0 := Fr.nil n0
  have K0 : Keep h0 h0 [o0] := Keep.refl h0 _
  refine oG X0 H r11_0_0 1 #[rv o0] [(.ref o0)] ?_
  refine ocI X0 H (wb14_ hw) (rm12_41 hw Z0 ) e0 0 o0 [] [] pd_3 d11_1 fun T2 _ _ X2 hQ2 => ?_
  obtain ⟨rfl, N2, e2⟩ := hQ2
  replace N0 := Fr.app N0 N2
  refine oG X2 H r11_4_5 6 #[rv o0] [oZ, (.ref o0)] ?_
  refine own_c2 (putF X2 hx hZ hown (host := "") (Or.inl (hV hw 66)) Via.refl e2 F_modCount_o0 E_o0 (Or.inl (hV hw 67)) (hV hw 48) (ty := .int) dE_ rfl rfl rfl rfl (hb hby d11_6)) fun T3 h3 X3 e3 W3 => ?_
  replace F_modCount_o0 := F_modCount_o0.same W3
  replace E_o0 := E_o0.wr W3
  replace F_elementData_o0 := F_elementData_o0.other W3 (Or.inr (sn2 hw))
  replace F_size_o0 := F_size_o0.other W3 (Or.inr (sn3 hw))
  replace K0 := K0.wr W3 (Or.inl (List.mem_of_getElem? (i := 0) rfl))
  replace N0 := Fr.snoc X3 N0 g_o0
  show own_Go p e below _ (T3.setTop (mkF m 9 #[rv o0] []))
  exact own_retV X3 Blk hx Bret (hb hby d11_9) (by
      try rw [show T3.heap = h3 from e3]
      exact ⟨rfl, N0, K0, E_o0, F_modCount_o0, F_elementData_o0, F_size_o0⟩) dE_ dE_

theorem d10_0 : dC17_ 0 (.aload_n 0, 1) := by decide +kernel
theorem d10_1 : dC17_ 1 (.invokespecial 1, 3) := by decide +kernel
theorem d10_4 : dC17_ 4 (.aload_n 0, 1) := by decide +kernel
theorem d10_5 : dC17_ 5 (.getstatic 39, 3) := by decide +kernel
theorem d10_8 : dC17_ 8 (.putfield 9, 3) := by decide +kernel
theorem d10_11 : dC17_ 11 (.return_, 1) := by decide +kernel
theorem r10_0_0 : oDec jdk_38_method_2_code [(0, .aload_n 0, 1)] := by decide +kernel
theorem r10_4_4 : oDec jdk_38_method_2_code [(4, .aload_n 0, 1)] := by decide +kernel
theorem pn_10 : plainName "java/util/ArrayList" = true := by first | (simp [plainName, overriddenIn]; done) | decide +kernel
theorem ef_10 (m : MethodId) (x0 : Addr) : entryFrame m #[(.ref x0)] 1 = mkF m 0 #[rv x0] [] := by first | (simp [entryFrame, mkF, argsToLocals, Value.category]; done) | rfl
set_option maxRecDepth 65536 in
set_option maxHeartbeats 40000000 in
theorem rm10_43 (hw : oW_ a0 Z) (Z0 : n0 ≤ h0.size) (g_o0 : n0 ≤ o0) (E_o0 : Exa Z h0 o0 c0_) (F_modCount_o0 : Fld Z h0 o0 c4_ "modCount" "I" (.int i0)) (F_elementData_o0 : Fld Z h0 o0 c0_ "elementData" c3_ .null) (F_size_o0 : Fld Z h0 o0 c0_ "size" "I" (.int i1)) (S_DEFAULTCAPACITY_EMPTY_ELEMENTDATA : Sta Z Z.heap c0_ c15_ c3_ (.ref o1)) (OZ : Old Z n0 h0) :
    oM l y10_ jdk_38_method_2_code 1 none ws (rM_ 3 0 0 36) #[(.ref o0)] Z h0 (fun v h L => v = none ∧ Fr n0 L ∧ Keep h0 h [o0] ∧ Exa Z h o0 c0_ ∧ Fld Z h o0 c4_ "modCount" "I" oZ ∧ Fld Z h o0 c0_ "elementData" c3_ (.ref o1) ∧ Fld Z h o0 c0_ "size" "I" (.int i1)) := by
  refine own_body c0_ (plainFor_of_name pn_10) (fun m => ef_10 m o0) fun p e s m below meth c s₁ X0 H hnm Bret Blk e0 => ?_
  obtain ⟨hx, hZ, hown, _, hby⟩ := id H
  have N0 := Fr.nil n0
  have K0 : Keep h0 h0 [o0] := Keep.refl h0 _
  refine oG X0 H r10_0_0 1 #[rv o0] [(.ref o0)] ?_
  refine ocI X0 H (wb15_ hw) (rm11_42 hw Z0 g_o0 E_o0 F_modCount_o0 F_elementData_o0 F_size_o0) e0 0 o0 [] [] pd_3 d10_1 fun T2 _ _ X2 hQ2 => ?_
  obtain ⟨rfl, N2, K2, E_o0', F_modCount_o0', F_elementData_o0', F_size_o0'⟩ := hQ2
  replace N0 := Fr.app N0 N2
  replace OZ := OZ.keep K2 (allS g_o0 all0)
  replace K0 := K0.trans K2 (allS (Or.inl (List.mem_of_getElem? (i := 0) rfl)) all0)
  replace E_o0 := E_o0'
  have F_modCount_o0 := F_modCount_o0'
  have F_elementData_o0 := F_elementData_o0'
  have F_size_o0 := F_size_o0'
  refine oG X2 H r10_4_4 5 #[rv o0] [(.ref o0)] ?_
  refine oGS X2 H (host := "") (Or.inl (hV hw 68)) Via.refl rfl (S_DEFAULTCAPACITY_EMPTY_ELEMENTDATA.ext OZ.2) d10_5 fun T3 X3 e3 => ?_
  refine own_c2 (putF X3 hx hZ hown (host := "") (Or.inl (hV hw 69)) Via.refl e3 F_elementData_o0 E_o0 (Or.inl (hV hw 70)) (hV hw 48) (ty := (.array (.object c1_))) dE_ rfl rfl rfl rfl (hb hby d10_8)) fun T4 h4 X4 e4 W4 => ?_
  replace F_elementData_o0 := F_elementData_o0.same W4
  replace E_o0 := E_o0.wr W4
  replace F_modCount_o0 := F_modCount_o0.other W4 (Or.inr (sn4 hw))
  replace F_size_o0 := F_size_o0.other W4 (Or.inr (sn5 hw))
  replace K0 := K0.wr W4 (Or.inl (List.mem_of_getElem? (i := 0) rfl))
  replace N0 := Fr.snoc X4 N0 g_o0
  show own_Go p e below _ (T4.setTop (mkF m 11 #[rv o0] []))
  exact own_retV X4 Blk hx Bret (hb hby d10_11) (by
      try rw [show T4.heap = h4 from e4]
      exact ⟨rfl, N0, K0, E_o0, F_modCount_o0, F_elementData_o0, F_size_o0⟩) dE_ dE_

theorem d14_0 : dC18_ 0 (.aload_n 0, 1) := by decide +kernel
theorem d14_1 : dC18_ 1 (.invokespecial 1, 3) := by decide +kernel
theorem d14_4 : dC18_ 4 (.return_, 1) := by decide +kernel
theorem r14_0_0 : oDec jdk_30_method_1_code [(0, .aload_n 0, 1)] := by decide +kernel
theorem pn_14 : plainName "java/lang/Record" = true := by first | (simp [plainName, overriddenIn]; done) | decide +kernel
theorem ef_14 (m : MethodId) (x0 : Addr) : entryFrame m #[(.ref x0)] 1 = mkF m 0 #[rv x0] [] := by first | (simp [entryFrame, mkF, argsToLocals, Value.category]; done) | rfl
set_option maxRecDepth 65536 in
set_option maxHeartbeats 40000000 in
theorem rm14_44 (hw : oW_ a0 Z) (Z0 : n0 ≤ h0.size) :
    oM l y11_ jdk_30_method_1_code 1 none ws (rM_ 1 0 0 12) #[(.ref o0)] Z h0 (fun v h L => v = none ∧ Fr n0 L ∧ h = h0) := by
  refine own_body c35_ (plainFor_of_name pn_14) (fun m => ef_14 m o0) fun p e s m below meth c s₁ X0 H hnm Bret Blk e0 => ?_
  obtain ⟨hx, hZ, hown, hml, hby⟩ := id H
  have N0 := Fr.nil n0
  refine oG X0 H r14_0_0 1 #[rv o0] [(.ref o0)] ?_
  refine own_c1 (initO X0 hx hZ hown (hV hw 82) (hV hw 16) (hV hw 17) e0 rfl (by rw [hml]; rfl) rfl (hb hby d14_1) dE_ (W := 0) (by show 2 * 0 + _ ≤ _; exact Nat.le_of_eq rfl) dE_) fun T2 X2 e2 => ?_
  show own_Go p e below _ (T2.setTop (mkF m 4 #[rv o0] []))
  exact own_retV X2 Blk hx Bret (hb hby d14_4) (by
      try rw [show T2.heap = h0 from e2]
      exact ⟨rfl, N0, rfl⟩) dE_ dE_

theorem d20_0 : dC19_ 0 (.aload_n 0, 1) := by decide +kernel
theorem d20_1 : dC19_ 1 (.invokespecial 1, 3) := by decide +kernel
theorem d20_4 : dC19_ 4 (.aload_n 0, 1) := by decide +kernel
theorem d20_5 : dC19_ 5 (.aload_n 1, 1) := by decide +kernel
theorem d20_6 : dC19_ 6 (.putfield 7, 3) := by decide +kernel
theorem d20_9 : dC19_ 9 (.return_, 1) := by decide +kernel
theorem r20_0_0 : oDec prog_24_method_1_code [(0, .aload_n 0, 1)] := by decide +kernel
theorem r20_4_5 : oDec prog_24_method_1_code [(4, .aload_n 0, 1), (5, .aload_n 1, 1)] := by decide +kernel
theorem pn_20 : plainName "com/example/patient_tape/patienttape/StrictJson$JsonObject" = true := by first | (simp [plainName, overriddenIn]; done) | decide +kernel
theorem ef_20 (m : MethodId) (x0 x1 : Addr) : entryFrame m #[(.ref x0), (.ref x1)] 2 = mkF m 0 #[rv x0, rv x1] [] := by first | (simp [entryFrame, mkF, argsToLocals, Value.category]; done) | rfl
set_option maxRecDepth 65536 in
set_option maxHeartbeats 40000000 in
theorem rm20_45 (hw : oW_ a0 Z) (Z0 : n0 ≤ h0.size) (g_o0 : n0 ≤ o0) (E_o0 : Exa Z h0 o0 c7_) (F_members_o0 : Fld Z h0 o0 c7_ "members" c19_ .null) :
    oM l (⟨c7_, "<init>", "(Ljava/util/List;)V"⟩ : MethodName) prog_24_method_1_code 2 none ws (rM_ 2 0 0 24) #[(.ref o0), (.ref o1)] Z h0 (fun v h L => v = none ∧ Fr n0 L ∧ Keep h0 h [o0] ∧ Exa Z h o0 c7_ ∧ Fld Z h o0 c7_ "members" c19_ (.ref o1)) := by
  refine own_body c7_ (plainFor_of_name pn_20) (fun m => ef_20 m o0 o1) fun p e s m below meth c s₁ X0 H hnm Bret Blk e0 => ?_
  obtain ⟨hx, hZ, hown, _, hby⟩ := id H
  have N0 := Fr.nil n0
  have K0 : Keep h0 h0 [o0] := Keep.refl h0 _
  refine oG X0 H r20_0_0 1 #[rv o0, rv o1] [(.ref o0)] ?_
  refine ocI X0 H (wb17_ hw) (rm14_44 hw Z0 ) e0 0 o0 [] [] pd_3 d20_1 fun T2 _ _ X2 hQ2 => ?_
  obtain ⟨rfl, N2, e2⟩ := hQ2
  replace N0 := Fr.app N0 N2
  refine oG X2 H r20_4_5 6 #[rv o0, rv o1] [(.ref o1), (.ref o0)] ?_
  refine own_c2 (putF X2 hx hZ hown (host := "") (Or.inl (hV hw 129)) Via.refl e2 F_members_o0 E_o0 (Or.inr ⟨(hV hw 130), rfl, hnm⟩) (hV hw 123) (ty := (.object c12_)) dE_ rfl rfl rfl rfl (hb hby d20_6)) fun T3 h3 X3 e3 W3 => ?_
  replace F_members_o0 := F_members_o0.same W3
  replace E_o0 := E_o0.wr W3
  replace K0 := K0.wr W3 (Or.inl (List.mem_of_getElem? (i := 0) rfl))
  replace N0 := Fr.snoc X3 N0 g_o0
  show own_Go p e below _ (T3.setTop (mkF m 9 #[rv o0, rv o1] []))
  exact own_retV X3 Blk hx Bret (hb hby d20_9) (by
      try rw [show T3.heap = h3 from e3]
      exact ⟨rfl, N0, K0, E_o0, F_members_o0⟩) dE_ dE_

theorem d23_0 : dC20_ 0 (.aload_n 0, 1) := by decide +kernel
theorem d23_1 : dC20_ 1 (.aload_n 1, 1) := by decide +kernel
theorem d23_2 : dC20_ 2 (.putfield 1, 3) := by decide +kernel
theorem d23_5 : dC20_ 5 (.aload_n 0, 1) := by decide +kernel
theorem d23_6 : dC20_ 6 (.invokespecial 7, 3) := by decide +kernel
theorem d23_9 : dC20_ 9 (.aload_n 0, 1) := by decide +kernel
theorem d23_10 : dC20_ 10 (.iconst (-1), 1) := by decide +kernel
theorem d23_11 : dC20_ 11 (.putfield 13, 3) := by decide +kernel
theorem d23_14 : dC20_ 14 (.aload_n 0, 1) := by decide +kernel
theorem d23_15 : dC20_ 15 (.aload_n 0, 1) := by decide +kernel
theorem d23_16 : dC20_ 16 (.getfield 1, 3) := by decide +kernel
theorem d23_19 : dC20_ 19 (.getfield 17, 3) := by decide +kernel
theorem d23_22 : dC20_ 22 (.putfield 22, 3) := by decide +kernel
theorem d23_25 : dC20_ 25 (.return_, 1) := by decide +kernel
theorem r23_0_1 : oDec jdk_49_method_1_code [(0, .aload_n 0, 1), (1, .aload_n 1, 1)] := by decide +kernel
theorem r23_5_5 : oDec jdk_49_method_1_code [(5, .aload_n 0, 1)] := by decide +kernel
theorem r23_9_10 : oDec jdk_49_method_1_code [(9, .aload_n 0, 1), (10, .iconst (-1), 1)] := by decide +kernel
theorem r23_14_15 : oDec jdk_49_method_1_code [(14, .aload_n 0, 1), (15, .aload_n 0, 1)] := by decide +kernel
theorem pn_23 : plainName "java/util/ArrayList$Itr" = true := by first | (simp [plainName, overriddenIn]; done) | decide +kernel
theorem ef_23 (m : MethodId) (x0 x1 : Addr) : entryFrame m #[(.ref x0), (.ref x1)] 2 = mkF m 0 #[rv x0, rv x1] [] := by first | (simp [entryFrame, mkF, argsToLocals, Value.category]; done) | rfl
set_option maxRecDepth 65536 in
set_option maxHeartbeats 40000000 in
theorem rm23_46 (hw : oW_ a0 Z) (Z0 : n0 ≤ h0.size) (g_o0 : n0 ≤ o0) (E_o0 : Exa Z h0 o0 c5_) (F_this_0_o0 : Fld Z h0 o0 c5_ "this$0" c14_ .null) (F_lastRet_o0 : Fld Z h0 o0 c5_ "lastRet" "I" (.int i0)) (F_expectedModCount_o0 : Fld Z h0 o0 c5_ c17_ "I" (.int i1)) (F_cursor_o0 : Fld Z h0 o0 c5_ "cursor" "I" (.int i2)) (F_modCount_o1 : Fld Z h0 o1 c4_ "modCount" "I" (.int i3)) (ne_o1_o0 : o1 ≠ o0) :
    oM l (⟨c5_, "<init>", "(Ljava/util/ArrayList;)V"⟩ : MethodName) jdk_49_method_1_code 2 none ws (rM_ 1 0 0 12) #[(.ref o0), (.ref o1)] Z h0 (fun v h L => v = none ∧ Fr n0 L ∧ Keep h0 h [o0] ∧ Exa Z h o0 c5_ ∧ Fld Z h o0 c5_ "this$0" c14_ (.ref o1) ∧ Fld Z h o0 c5_ "lastRet" "I" (.int (-1 : Int32)) ∧ Fld Z h o0 c5_ c17_ "I" (.int i3) ∧ Fld Z h o0 c5_ "cursor" "I" (.int i2)) := by
  refine own_body c5_ (plainFor_of_name pn_23) (fun m => ef_23 m o0 o1) fun p e s m below meth c s₁ X0 H hnm Bret Blk e0 => ?_
  obtain ⟨hx, hZ, hown, hml, hby⟩ := id H
  have N0 := Fr.nil n0
  have K0 : Keep h0 h0 [o0] := Keep.refl h0 _
  refine oG X0 H r23_0_1 2 #[rv o0, rv o1] [(.ref o1), (.ref o0)] ?_
  refine own_c2 (putF X0 hx hZ hown (host := "") (Or.inl (hV hw 153)) Via.refl e0 F_this_0_o0 E_o0 (Or.inr ⟨(hV hw 154), rfl, hnm⟩) (hV hw 147) (ty := (.object c0_)) dE_ rfl rfl rfl rfl (hb hby d23_2)) fun T1 h1 X1 e1 W1 => ?_
  replace F_this_0_o0 := F_this_0_o0.same W1
  replace E_o0 := E_o0.wr W1
  replace F_lastRet_o0 := F_lastRet_o0.other W1 (Or.inr (sn6 hw))
  replace F_expectedModCount_o0 := F_expectedModCount_o0.other W1 (Or.inr (sn7 hw))
  replace F_cursor_o0 := F_cursor_o0.other W1 (Or.inr (sn8 hw))
  replace K0 := K0.wr W1 (Or.inl (List.mem_of_getElem? (i := 0) rfl))
  replace N0 := Fr.snoc X1 N0 g_o0
  refine oG X1 H r23_5_5 6 #[rv o0, rv o1] [(.ref o0)] ?_
  refine own_c1 (initO X1 hx hZ hown (hV hw 155) (hV hw 16) (hV hw 17) e1 rfl (by rw [hml]; rfl) rfl (hb hby d23_6) dE_ (W := 0) (by show 2 * 0 + _ ≤ _; exact Nat.le_of_eq rfl) dE_) fun T3 X3 e3 => ?_
  refine oG X3 H r23_9_10 11 #[rv o0, rv o1] [(.int (-1 : Int32)), (.ref o0)] ?_
  refine own_c2 (putF X3 hx hZ hown (host := "") (Or.inl (hV hw 156)) Via.refl e3 F_lastRet_o0 E_o0 (Or.inl (hV hw 157)) (hV hw 147) (ty := .int) dE_ rfl rfl rfl rfl (hb hby d23_11)) fun T4 h4 X4 e4 W4 => ?_
  replace F_lastRet_o0 := F_lastRet_o0.same W4
  replace E_o0 := E_o0.wr W4
  replace F_this_0_o0 := F_this_0_o0.other W4 (Or.inr (sn9 hw))
  replace F_expectedModCount_o0 := F_expectedModCount_o0.other W4 (Or.inr (sn10 hw))
  replace F_cursor_o0 := F_cursor_o0.other W4 (Or.inr (sn11 hw))
  replace K0 := K0.wr W4 (Or.inl (List.mem_of_getElem? (i := 0) rfl))
  replace N0 := Fr.snoc X4 N0 g_o0
  refine oG X4 H r23_14_15 16 #[rv o0, rv o1] [(.ref o0), (.ref o0)] ?_
  refine oGf X4 H (hV hw 153) e4 F_this_0_o0 d23_16 fun T5 X5 e5 => ?_
  refine oGF X5 H (host := "") (Or.inl (hV hw 158)) (Via.of (hV hw 97)) e5 (F_modCount_o1.keep K0 (ninS ne_o1_o0 nin0)) d23_19 fun T6 X6 e6 => ?_
  refine own_c2 (putF X6 hx hZ hown (host := "") (Or.inl (hV hw 159)) Via.refl e6 F_expectedModCount_o0 E_o0 (Or.inl (hV hw 160)) (hV hw 147) (ty := .int) dE_ rfl rfl rfl rfl (hb hby d23_22)) fun T7 h7 X7 e7 W7 => ?_
  replace F_expectedModCount_o0 := F_expectedModCount_o0.same W7
  replace E_o0 := E_o0.wr W7
  replace F_this_0_o0 := F_this_0_o0.other W7 (Or.inr (sn12 hw))
  replace F_lastRet_o0 := F_lastRet_o0.other W7 (Or.inr (sn13 hw))
  replace F_cursor_o0 := F_cursor_o0.other W7 (Or.inr (sn14 hw))
  replace K0 := K0.wr W7 (Or.inl (List.mem_of_getElem? (i := 0) rfl))
  replace N0 := Fr.snoc X7 N0 g_o0
  show own_Go p e below _ (T7.setTop (mkF m 25 #[rv o0, rv o1] []))
  exact own_retV X7 Blk hx Bret (hb hby d23_25) (by
      try rw [show T7.heap = h7 from e7]
      exact ⟨rfl, N0, K0, E_o0, F_this_0_o0, F_lastRet_o0, F_expectedModCount_o0, F_cursor_o0⟩) dE_ dE_

theorem d22_0 : dC21_ 0 (.new 267, 3) := by decide +kernel
theorem d22_3 : dC21_ 3 (.dup, 1) := by decide +kernel
theorem d22_4 : dC21_ 4 (.aload_n 0, 1) := by decide +kernel
theorem d22_5 : dC21_ 5 (.invokespecial 269, 3) := by decide +kernel
theorem d22_8 : dC21_ 8 (.areturn, 1) := by decide +kernel
theorem r22_3_4 : oDec jdk_38_method_55_code [(3, .dup, 1), (4, .aload_n 0, 1)] := by decide +kernel
theorem pn_22 : plainName "java/util/ArrayList" = true := by first | (simp [plainName, overriddenIn]; done) | decide +kernel
theorem pd_18 : parseMethodDescriptor "(Ljava/util/ArrayList;)V" = some ⟨[(.object "java/util/ArrayList")], none⟩ := by decide +kernel
theorem ef_22 (m : MethodId) (x0 : Addr) : entryFrame m #[(.ref x0)] 1 = mkF m 0 #[rv x0] [] := by first | (simp [entryFrame, mkF, argsToLocals, Value.category]; done) | rfl
set_option maxRecDepth 65536 in
set_option maxHeartbeats 40000000 in
theorem rm22_47 (hw : oW_ a0 Z) (Z0 : n0 ≤ h0.size) (F_modCount_o0 : Fld Z h0 o0 c4_ "modCount" "I" (.int i0)) :
    oM l (⟨c0_, "iterator", c39_⟩ : MethodName) jdk_38_method_55_code 1 (some (.object c36_)) ws (rM_ 2 1 4 26) #[(.ref o0)] Z h0 (fun v h L => ∃ b1 : Addr, v = some (.ref b1) ∧ Fr n0 L ∧ Keep h0 h [] ∧ Exa Z h b1 c5_ ∧ Fld Z h b1 c5_ "this$0" c14_ (.ref o0) ∧ Fld Z h b1 c5_ "lastRet" "I" (.int (-1 : Int32)) ∧ Fld Z h b1 c5_ c17_ "I" (.int i0) ∧ Fld Z h b1 c5_ "cursor" "I" oZ ∧ h0.size ≤ b1) := by
  refine own_body c0_ (plainFor_of_name pn_22) (fun m => ef_22 m o0) fun p e s m below meth c s₁ X0 H hnm Bret Blk e0 => ?_
  obtain ⟨hx, _, _, _, hby⟩ := id H
  have N0 := Fr.nil n0
  have K0 : Keep h0 h0 [] := Keep.refl h0 _
  refine oNw X0 H (hV hw 146) (hV hw 147) (hV hw 148) e0 d22_0 fun T1 h1 b1 X1 e1 E1 u1 E_b1 D1 => ?_
  have g_b1 := Nat.le_trans Z0 u1
  have sz_b1 := Nat.le_trans K0.1 u1
  replace K0 := K0.ext E1
  replace Z0 := Nat.le_trans Z0 E1.1
  have F_this_0_b1 : Fld Z h1 b1 c5_ "this$0" c14_ .null := D1 (Or.inr (hV hw 154)) (ty := (.object c0_)) dE_
  have F_lastRet_b1 : Fld Z h1 b1 c5_ "lastRet" "I" oZ := D1 (Or.inl (hV hw 157)) (ty := .int) dE_
  have F_expectedModCount_b1 : Fld Z h1 b1 c5_ c17_ "I" oZ := D1 (Or.inl (hV hw 160)) (ty := .int) dE_
  have F_cursor_b1 : Fld Z h1 b1 c5_ "cursor" "I" oZ := D1 (Or.inl (hV hw 171)) (ty := .int) dE_
  refine oG X1 H r22_3_4 5 #[rv o0] [(.ref o0), (.ref b1), (.ref b1)] ?_
  refine ocI X1 H (wb20_ hw) (rm23_46 hw Z0 g_b1 E_b1 F_this_0_b1 F_lastRet_b1 F_expectedModCount_b1 F_cursor_b1 (F_modCount_o0.keep K0 nin0) (oNl F_modCount_o0.lt sz_b1)) e1 1 b1 [(.ref o0)] [(.ref b1)] pd_18 d22_5 fun T3 _ _ X3 hQ3 => ?_
  obtain ⟨rfl, N3, K3, E_b1', F_this_0_b1', F_lastRet_b1', F_expectedModCount_b1', F_cursor_b1'⟩ := hQ3
  replace N0 := Fr.app N0 N3
  replace K0 := K0.trans K3 (allS (Or.inr sz_b1) all0)
  replace E_b1 := E_b1'
  have F_this_0_b1 := F_this_0_b1'
  have F_lastRet_b1 := F_lastRet_b1'
  have F_expectedModCount_b1 := F_expectedModCount_b1'
  have F_cursor_b1 := F_cursor_b1'
  exact own_retR X3 Blk hx Bret rfl rfl rfl (hb hby d22_8) ⟨b1, rfl, N0, K0, E_b1, F_this_0_b1, F_lastRet_b1, F_expectedModCount_b1, F_cursor_b1, sz_b1⟩ dE_ dE_

theorem d24_0 : dC22_ 0 (.aload_n 0, 1) := by decide +kernel
theorem d24_1 : dC22_ 1 (.getfield 25, 3) := by decide +kernel
theorem d24_4 : dC22_ 4 (.aload_n 0, 1) := by decide +kernel
theorem d24_5 : dC22_ 5 (.getfield 1, 3) := by decide +kernel
theorem d24_8 : dC22_ 8 (.getfield 28, 3) := by decide +kernel
theorem d24_11 : dC22_ 11 (.if_icmp .eq 7, 3) := by decide +kernel
theorem d24_18 : dC22_ 18 (.iconst 0, 1) := by decide +kernel
theorem d24_19 : dC22_ 19 (.ireturn, 1) := by decide +kernel
theorem r24_0_0 : oDec jdk_49_method_2_code [(0, .aload_n 0, 1)] := by decide +kernel
theorem r24_4_4 : oDec jdk_49_method_2_code [(4, .aload_n 0, 1)] := by decide +kernel
theorem r24_18_18 : oDec jdk_49_method_2_code [(18, .iconst 0, 1)] := by decide +kernel
theorem pn_24 : plainName "java/util/ArrayList$Itr" = true := by first | (simp [plainName, overriddenIn]; done) | decide +kernel
theorem ef_24 (m : MethodId) (x0 : Addr) : entryFrame m #[(.ref x0)] 1 = mkF m 0 #[rv x0] [] := by first | (simp [entryFrame, mkF, argsToLocals, Value.category]; done) | rfl
set_option maxRecDepth 65536 in
set_option maxHeartbeats 40000000 in
theorem rm24_48 (hw : oW_ a0 Z) (Z0 : n0 ≤ h0.size) (F_this_0_o0 : Fld Z h0 o0 c5_ "this$0" c14_ (.ref o2)) (F_cursor_o0 : Fld Z h0 o0 c5_ "cursor" "I" (.int i2)) (F_size_o2 : Fld Z h0 o2 c0_ "size" "I" (.int i3)) (hp0 : i2 = i3) :
    oM l y12_ jdk_49_method_2_code 1 (some .boolean) ws (rM_ 0 0 0 0) #[(.ref o0)] Z h0 (fun v h L => v = some oZ ∧ Fr n0 L ∧ h = h0) := by
  refine own_body c5_ (plainFor_of_name pn_24) (fun m => ef_24 m o0) fun p e s m below meth c s₁ X0 H hnm Bret Blk e0 => ?_
  obtain ⟨hx, _, _, _, hby⟩ := id H
  have N0 := Fr.nil n0
  refine oG X0 H r24_0_0 1 #[rv o0] [(.ref o0)] ?_
  refine oGf X0 H (hV hw 170) e0 F_cursor_o0 d24_1 fun T1 X1 e1 => ?_
  refine oG X1 H r24_4_4 5 #[rv o0] [(.ref o0), (.int i2)] ?_
  refine oGf X1 H (hV hw 153) e1 F_this_0_o0 d24_5 fun T2 X2 e2 => ?_
  refine oGF X2 H (Or.inr (hV hw 172)) Via.refl e2 F_size_o2 d24_8 fun T3 X3 e3 => ?_
  refine oCY X3 H oD0 d24_11 18 #[rv o0] [] rfl (teq hp0).1 ?_
  refine oH X3 H r24_18_18 19 [oZ] ?_
  exact own_retN X3 Blk hx (t := .boolean) Bret (by simp) (hb hby d24_19) (by
      try rw [show T3.heap = h0 from e3]
      exact ⟨rfl, N0, rfl⟩) dE_ dE_

theorem d21_0 : dC23_ 0 (.new 13, 3) := by decide +kernel
theorem d21_3 : dC23_ 3 (.dup, 1) := by decide +kernel
theorem d21_4 : dC23_ 4 (.invokespecial 15, 3) := by decide +kernel
theorem d21_7 : dC23_ 7 (.astore_n 2, 1) := by decide +kernel
theorem d21_8 : dC23_ 8 (.aload_n 0, 1) := by decide +kernel
theorem d21_9 : dC23_ 9 (.getfield 7, 3) := by decide +kernel
theorem d21_12 : dC23_ 12 (.invokeinterface 16 1, 5) := by decide +kernel
theorem d21_17 : dC23_ 17 (.astore_n 3, 1) := by decide +kernel
theorem d21_18 : dC23_ 18 (.aload_n 3, 1) := by decide +kernel
theorem d21_19 : dC23_ 19 (.invokeinterface 22 1, 5) := by decide +kernel
theorem d21_24 : dC23_ 24 (.ifCond .eq 41, 3) := by decide +kernel
theorem d21_65 : dC23_ 65 (.aload_n 2, 1) := by decide +kernel
theorem d21_66 : dC23_ 66 (.areturn, 1) := by decide +kernel
theorem r21_3_3 : oDec prog_24_method_2_code [(3, .dup, 1)] := by decide +kernel
theorem r21_7_8 : oDec prog_24_method_2_code [(7, .astore_n 2, 1), (8, .aload_n 0, 1)] := by decide +kernel
theorem r21_17_18 : oDec prog_24_method_2_code [(17, .astore_n 3, 1), (18, .aload_n 3, 1)] := by decide +kernel
theorem r21_65_65 : oDec prog_24_method_2_code [(65, .aload_n 2, 1)] := by decide +kernel
theorem pn_21 : plainName "com/example/patient_tape/patienttape/StrictJson$JsonObject" = true := by first | (simp [plainName, overriddenIn]; done) | decide +kernel
theorem pd_17 : parseMethodDescriptor "()Ljava/util/Iterator;" = some ⟨[], some (.object "java/util/Iterator")⟩ := by decide +kernel
theorem pd_19 : parseMethodDescriptor "()Z" = some ⟨[], some .boolean⟩ := by decide +kernel
theorem ef_21 (m : MethodId) (x0 x1 : Addr) : entryFrame m #[(.ref x0), (.ref x1)] 5 = mkF m 0 (lA12_ x0 x1) [] := by first | (simp [entryFrame, mkF, argsToLocals, Value.category]; done) | rfl
set_option maxRecDepth 65536 in
set_option maxHeartbeats 40000000 in
theorem rm21_49 (hw : oW_ a0 Z) (Z0 : n0 ≤ h0.size) (F_members_o0 : Fld Z h0 o0 c7_ "members" c19_ (.ref o3)) (E_o3 : Exa Z h0 o3 c0_) (F_modCount_o3 : Fld Z h0 o3 c4_ "modCount" "I" (.int i0)) (F_size_o3 : Fld Z h0 o3 c0_ "size" "I" (.int i1)) (S_DEFAULTCAPACITY_EMPTY_ELEMENTDATA : Sta Z Z.heap c0_ c15_ c3_ (.ref o2)) (OZ : Old Z n0 h0) (hp0 : (0 : Int32) = i1) :
    oM l y13_ prog_24_method_2_code 5 (some (.object c12_)) ws (rM_ 4 2 7 49) #[(.ref o0), (.ref o1)] Z h0 (fun v h L => ∃ b1 : Addr, v = some (.ref b1) ∧ Fr n0 L ∧ Keep h0 h [] ∧ Exa Z h b1 c0_ ∧ Fld Z h b1 c4_ "modCount" "I" oZ ∧ Fld Z h b1 c0_ "elementData" c3_ (.ref o2) ∧ Fld Z h b1 c0_ "size" "I" oZ ∧ h0.size ≤ b1) := by
  refine own_body c7_ (plainFor_of_name pn_21) (fun m => ef_21 m o0 o1) fun p e s m below meth c s₁ X0 H hnm Bret Blk e0 => ?_
  obtain ⟨hx, _, _, _, hby⟩ := id H
  have N0 := Fr.nil n0
  have K0 : Keep h0 h0 [] := Keep.refl h0 _
  refine oNw X0 H (hV hw 136) (hV hw 48) (hV hw 49) e0 d21_0 fun T1 h1 b1 X1 e1 E1 u1 E_b1 D1 => ?_
  have g_b1 := Nat.le_trans Z0 u1
  have sz_b1 := Nat.le_trans K0.1 u1
  replace OZ := OZ.ext E1
  replace K0 := K0.ext E1
  replace Z0 := Nat.le_trans Z0 E1.1
  have F_modCount_b1 : Fld Z h1 b1 c4_ "modCount" "I" oZ := D1 (Or.inl (hV hw 67)) (ty := .int) dE_
  have F_elementData_b1 : Fld Z h1 b1 c0_ "elementData" c3_ .null := D1 (Or.inl (hV hw 70)) (ty := (.array (.object c1_))) dE_
  have F_size_b1 : Fld Z h1 b1 c0_ "size" "I" oZ := D1 (Or.inl (hV hw 99)) (ty := .int) dE_
  refine oG X1 H r21_3_3 4 (lA12_ o0 o1) [(.ref b1), (.ref b1)] ?_
  refine ocI X1 H (wb19_ hw) (rm10_43 hw Z0 g_b1 E_b1 F_modCount_b1 F_elementData_b1 F_size_b1 S_DEFAULTCAPACITY_EMPTY_ELEMENTDATA OZ) e1 1 b1 [] [(.ref b1)] pd_3 d21_4 fun T3 _ _ X3 hQ3 => ?_
  obtain ⟨rfl, N3, K3, E_b1', F_modCount_b1', F_elementData_b1', F_size_b1'⟩ := hQ3
  replace N0 := Fr.app N0 N3
  replace K0 := K0.trans K3 (allS (Or.inr sz_b1) all0)
  replace Z0 := Nat.le_trans Z0 K3.1
  replace E_b1 := E_b1'
  have F_modCount_b1 := F_modCount_b1'
  have F_elementData_b1 := F_elementData_b1'
  have F_size_b1 := F_size_b1'
  refine oG X3 H r21_7_8 9 (lA13_ o0 o1 b1) [(.ref o0)] ?_
  refine oGf X3 H (hV hw 129) rfl (F_members_o0.keep K0 nin0) d21_9 fun T4 X4 e4 => ?_
  refine ocF X4 H (wb21_ hw) (rm22_47 hw Z0 (F_modCount_o3.keep K0 nin0)) e4 0 o3 (E_o3.keep K0) [] [] pd_17 d21_12 fun T6 _ _ X6 hQ6 => ?_
  obtain ⟨b6_0, rfl, N6, K6, E_b6_0', F_this_0_b6_0', _, _, F_cursor_b6_0', _⟩ := hQ6
  replace N0 := Fr.app N0 N6
  replace E_b1 := E_b1.keep K6
  replace F_modCount_b1 := F_modCount_b1.keep K6 nin0
  replace F_elementData_b1 := F_elementData_b1.keep K6 nin0
  replace F_size_b1 := F_size_b1.keep K6 nin0
  replace K0 := K0.trans K6 all0
  replace Z0 := Nat.le_trans Z0 K6.1
  have E_b6_0 := E_b6_0'
  have F_this_0_b6_0 := F_this_0_b6_0'
  have F_cursor_b6_0 := F_cursor_b6_0'
  refine oG X6 H r21_17_18 19 (lA14_ o0 o1 b1 b6_0) [(.ref b6_0)] ?_
  refine ocF X6 H (wb22_ hw) (rm24_48 hw Z0 F_this_0_b6_0 F_cursor_b6_0 (F_size_o3.keep K0 nin0) hp0) (rfl : T6.heap = _) 0 b6_0 E_b6_0 [] [] pd_19 d21_19 fun T8 _ _ X8 hQ8 => ?_
  obtain ⟨rfl, N8, e8⟩ := hQ8
  replace N0 := Fr.app N0 N8
  refine oIY X8 H oD0 d21_24 65 (lA14_ o0 o1 b1 b6_0) [] rfl ((if0 _ _).trans (teq (by decide : (0 : Int32) = (0 : Int32))).1) ?_
  refine oH X8 H r21_65_65 66 [(.ref b1)] ?_
  exact own_retR X8 Blk hx Bret rfl rfl rfl (hb hby d21_66) (by
      try rw [show T8.heap = T6.heap from e8]
      exact ⟨b1, rfl, N0, K0, E_b1, F_modCount_b1, F_elementData_b1, F_size_b1, sz_b1⟩) dE_ dE_

theorem d13_0 : dC24_ 0 (.aload_n 0, 1) := by decide +kernel
theorem d13_1 : dC24_ 1 (.invokespecial 1, 3) := by decide +kernel
theorem d13_4 : dC24_ 4 (.aload_n 0, 1) := by decide +kernel
theorem d13_5 : dC24_ 5 (.aload_n 1, 1) := by decide +kernel
theorem d13_6 : dC24_ 6 (.putfield 7, 3) := by decide +kernel
theorem d13_9 : dC24_ 9 (.aload_n 0, 1) := by decide +kernel
theorem d13_10 : dC24_ 10 (.aload_n 2, 1) := by decide +kernel
theorem d13_11 : dC24_ 11 (.putfield 13, 3) := by decide +kernel
theorem d13_14 : dC24_ 14 (.return_, 1) := by decide +kernel
theorem r13_0_0 : oDec prog_26_method_1_code [(0, .aload_n 0, 1)] := by decide +kernel
theorem r13_4_5 : oDec prog_26_method_1_code [(4, .aload_n 0, 1), (5, .aload_n 1, 1)] := by decide +kernel
theorem r13_9_10 : oDec prog_26_method_1_code [(9, .aload_n 0, 1), (10, .aload_n 2, 1)] := by decide +kernel
theorem pn_13 : plainName "com/example/patient_tape/patienttape/StrictJson$Member" = true := by first | (simp [plainName, overriddenIn]; done) | decide +kernel
theorem ef_13 (m : MethodId) (x0 x1 x2 : Addr) : entryFrame m #[(.ref x0), (.ref x1), (.ref x2)] 3 = mkF m 0 #[rv x0, rv x1, rv x2] [] := by first | (simp [entryFrame, mkF, argsToLocals, Value.category]; done) | rfl
set_option maxRecDepth 65536 in
set_option maxHeartbeats 40000000 in
theorem rm13_50 (hw : oW_ a0 Z) (Z0 : n0 ≤ h0.size) (g_o0 : n0 ≤ o0) (E_o0 : Exa Z h0 o0 c6_) (F_name_o0 : Fld Z h0 o0 c6_ "name" c9_ .null) (F_value_o0 : Fld Z h0 o0 c6_ "value" c11_ .null) :
    oM l (⟨c6_, "<init>", c40_⟩ : MethodName) prog_26_method_1_code 3 none ws (rM_ 2 0 0 24) #[(.ref o0), (.ref o1), (.ref o2)] Z h0 (fun v h L => v = none ∧ Fr n0 L ∧ Keep h0 h [o0] ∧ Exa Z h o0 c6_ ∧ Fld Z h o0 c6_ "name" c9_ (.ref o1) ∧ Fld Z h o0 c6_ "value" c11_ (.ref o2)) := by
  refine own_body c6_ (plainFor_of_name pn_13) (fun m => ef_13 m o0 o1 o2) fun p e s m below meth c s₁ X0 H hnm Bret Blk e0 => ?_
  obtain ⟨hx, hZ, hown, _, hby⟩ := id H
  have N0 := Fr.nil n0
  have K0 : Keep h0 h0 [o0] := Keep.refl h0 _
  refine oG X0 H r13_0_0 1 #[rv o0, rv o1, rv o2] [(.ref o0)] ?_
  refine ocI X0 H (wb24_ hw) (rm14_44 hw Z0 ) e0 0 o0 [] [] pd_3 d13_1 fun T2 _ _ X2 hQ2 => ?_
  obtain ⟨rfl, N2, e2⟩ := hQ2
  replace N0 := Fr.app N0 N2
  refine oG X2 H r13_4_5 6 #[rv o0, rv o1, rv o2] [(.ref o1), (.ref o0)] ?_
  refine own_c2 (putF X2 hx hZ hown (host := "") (Or.inl (hV hw 83)) Via.refl e2 F_name_o0 E_o0 (Or.inr ⟨(hV hw 84), rfl, hnm⟩) (hV hw 72) (ty := (.object c2_)) dE_ rfl rfl rfl rfl (hb hby d13_6)) fun T3 h3 X3 e3 W3 => ?_
  replace F_name_o0 := F_name_o0.same W3
  replace E_o0 := E_o0.wr W3
  replace F_value_o0 := F_value_o0.other W3 (Or.inr (sn15 hw))
  replace K0 := K0.wr W3 (Or.inl (List.mem_of_getElem? (i := 0) rfl))
  replace N0 := Fr.snoc X3 N0 g_o0
  refine oG X3 H r13_9_10 11 #[rv o0, rv o1, rv o2] [(.ref o2), (.ref o0)] ?_
  refine own_c2 (putF X3 hx hZ hown (host := "") (Or.inl (hV hw 85)) Via.refl e3 F_value_o0 E_o0 (Or.inr ⟨(hV hw 86), rfl, hnm⟩) (hV hw 72) (ty := (.object c1_)) dE_ rfl rfl rfl rfl (hb hby d13_11)) fun T4 h4 X4 e4 W4 => ?_
  replace F_value_o0 := F_value_o0.same W4
  replace E_o0 := E_o0.wr W4
  replace F_name_o0 := F_name_o0.other W4 (Or.inr (sn16 hw))
  replace K0 := K0.wr W4 (Or.inl (List.mem_of_getElem? (i := 0) rfl))
  replace N0 := Fr.snoc X4 N0 g_o0
  show own_Go p e below _ (T4.setTop (mkF m 14 #[rv o0, rv o1, rv o2] []))
  exact own_retV X4 Blk hx Bret (hb hby d13_14) (by
      try rw [show T4.heap = h4 from e4]
      exact ⟨rfl, N0, K0, E_o0, F_name_o0, F_value_o0⟩) dE_ dE_

theorem d19_0 : dC25_ 0 (.iload_n 0, 1) := by decide +kernel
theorem d19_1 : dC25_ 1 (.iload_n 1, 1) := by decide +kernel
theorem d19_2 : dC25_ 2 (.if_icmp .lt 7, 3) := by decide +kernel
theorem d19_5 : dC25_ 5 (.iload_n 0, 1) := by decide +kernel
theorem d19_6 : dC25_ 6 (.goto 4, 3) := by decide +kernel
theorem d19_10 : dC25_ 10 (.ireturn, 1) := by decide +kernel
theorem r19_0_1 : oDec jdk_29_method_65_code [(0, .iload_n 0, 1), (1, .iload_n 1, 1)] := by decide +kernel
theorem r19_5_6 : oDec jdk_29_method_65_code [(5, .iload_n 0, 1), (6, .goto 4, 3)] := by decide +kernel
theorem ef_19 (m : MethodId) (x0 x1 : Int32) : entryFrame m #[(.int x0), (.int x1)] 2 = mkF m 0 #[iv x0, iv x1] [] := by first | (simp [entryFrame, mkF, argsToLocals, Value.category]; done) | rfl
set_option maxRecDepth 65536 in
set_option maxHeartbeats 40000000 in
theorem rm19_51 (hw : oW_ a0 Z) (Z0 : n0 ≤ h0.size) (hp0 : ¬ (i0 < i1)) :
    oM l (⟨"java/lang/Math", "max", "(II)I"⟩ : MethodName) jdk_29_method_65_code 2 (some .int) ws (rM_ 0 0 0 0) #[(.int i0), (.int i1)] Z h0 (fun v h L => v = some (.int i0) ∧ Fr n0 L ∧ h = h0) := by
  refine own_body "java/lang/Math" (Jvm.Free.JP.mathPlain rfl (by decide +kernel)) (fun m => ef_19 m i0 i1) fun p e s m below meth c s₁ X0 H hnm Bret Blk e0 => ?_
  obtain ⟨hx, _, _, _, hby⟩ := id H
  have N0 := Fr.nil n0
  refine oCN X0 H r19_0_1 d19_2 #[iv i0, iv i1] [] rfl (flt hp0).1 ?_
  refine oH X0 H r19_5_6 10 [(.int i0)] ?_
  exact own_retI X0 Blk hx Bret (hb hby d19_10) (by
      try rw [show s₁.heap = h0 from e0]
      exact ⟨rfl, N0, rfl⟩) dE_ dE_

theorem d18_0 : dC26_ 0 (.aload_n 0, 1) := by decide +kernel
theorem d18_1 : dC26_ 1 (.getfield 9, 3) := by decide +kernel
theorem d18_4 : dC26_ 4 (.arraylength, 1) := by decide +kernel
theorem d18_5 : dC26_ 5 (.istore_n 2, 1) := by decide +kernel
theorem d18_6 : dC26_ 6 (.iload_n 2, 1) := by decide +kernel
theorem d18_7 : dC26_ 7 (.ifCond .gt 13, 3) := by decide +kernel
theorem d18_10 : dC26_ 10 (.aload_n 0, 1) := by decide +kernel
theorem d18_11 : dC26_ 11 (.getfield 9, 3) := by decide +kernel
theorem d18_14 : dC26_ 14 (.getstatic 39, 3) := by decide +kernel
theorem d18_17 : dC26_ 17 (.if_acmp .eq 28, 3) := by decide +kernel
theorem d18_45 : dC26_ 45 (.aload_n 0, 1) := by decide +kernel
theorem d18_46 : dC26_ 46 (.bipush 10, 2) := by decide +kernel
theorem d18_48 : dC26_ 48 (.iload_n 1, 1) := by decide +kernel
theorem d18_49 : dC26_ 49 (.invokestatic 79, 3) := by decide +kernel
theorem d18_52 : dC26_ 52 (.anewarray 7, 3) := by decide +kernel
theorem d18_55 : dC26_ 55 (.dup_x1, 1) := by decide +kernel
theorem d18_56 : dC26_ 56 (.putfield 9, 3) := by decide +kernel
theorem d18_59 : dC26_ 59 (.areturn, 1) := by decide +kernel
theorem r18_0_0 : oDec jdk_38_method_6_code [(0, .aload_n 0, 1)] := by decide +kernel
theorem r18_5_6 : oDec jdk_38_method_6_code [(5, .istore_n 2, 1), (6, .iload_n 2, 1)] := by decide +kernel
theorem r18_10_10 : oDec jdk_38_method_6_code [(10, .aload_n 0, 1)] := by decide +kernel
theorem r18_45_48 : oDec jdk_38_method_6_code [(45, .aload_n 0, 1), (46, .bipush 10, 2), (48, .iload_n 1, 1)] := by decide +kernel
theorem pn_18 : plainName "java/util/ArrayList" = true := by first | (simp [plainName, overriddenIn]; done) | decide +kernel
theorem ef_18 (m : MethodId) (x0 : Addr) (x1 : Int32) : entryFrame m #[(.ref x0), (.int x1)] 4 = mkF m 0 #[rv x0, iv x1, oU, oU] [] := by first | (simp [entryFrame, mkF, argsToLocals, Value.category]; done) | rfl
set_option maxRecDepth 65536 in
set_option maxHeartbeats 40000000 in
theorem rm18_52 (hw : oW_ a0 Z) (Z0 : n0 ≤ h0.size) (g_o0 : n0 ≤ o0) (E_o0 : Exa Z h0 o0 c0_) (F_modCount_o0 : Fld Z h0 o0 c4_ "modCount" "I" (.int i1)) (F_elementData_o0 : Fld Z h0 o0 c0_ "elementData" c3_ (.ref o1)) (F_size_o0 : Fld Z h0 o0 c0_ "size" "I" (.int i2)) (V_o1 : Arv Z h0 o1 k0 (.object c1_) (0 : Int32) [] .null) (S_DEFAULTCAPACITY_EMPTY_ELEMENTDATA : Sta Z Z.heap c0_ c15_ c3_ (.ref o1)) (OZ : Old Z n0 h0) (hp0 : ¬ ((10 : Int32) < i0)) :
    oM l (⟨c0_, "grow", "(I)[Ljava/lang/Object;"⟩ : MethodName) jdk_38_method_6_code 4 (some (.array (.object c1_))) ws (rM_ 1 1 10 14) #[(.ref o0), (.int i0)] Z h0 (fun v h L => ∃ b6 : Addr, ∃ k6 : ClassId, v = some (.ref b6) ∧ Fr n0 L ∧ Keep h0 h [o0] ∧ Exa Z h o0 c0_ ∧ Fld Z h o0 c4_ "modCount" "I" (.int i1) ∧ Fld Z h o0 c0_ "elementData" c3_ (.ref b6) ∧ Fld Z h o0 c0_ "size" "I" (.int i2) ∧ Arv Z h b6 k6 (.object c1_) (10 : Int32) [] .null ∧ Ovr Z k6 c1_ ∧ h0.size ≤ b6) := by
  refine own_body c0_ (plainFor_of_name pn_18) (fun m => ef_18 m o0 i0) fun p e s m below meth c s₁ X0 H hnm Bret Blk e0 => ?_
  obtain ⟨hx, hZ, hown, _, hby⟩ := id H
  have N0 := Fr.nil n0
  have K0 : Keep h0 h0 [o0] := Keep.refl h0 _
  refine oG X0 H r18_0_0 1 #[rv o0, iv i0, oU, oU] [(.ref o0)] ?_
  refine oGf X0 H (hV hw 69) e0 F_elementData_o0 d18_1 fun T1 X1 e1 => ?_
  refine oLen X1 H e1 V_o1 d18_4 ?_
  refine oIN X1 H r18_5_6 d18_7 #[rv o0, iv i0, iv (0 : Int32), oU] [] rfl ((if0 _ _).trans (flt (by decide : ¬ ((0 : Int32) < (0 : Int32)))).2.2.1) ?_
  refine oH X1 H r18_10_10 11 [(.ref o0)] ?_
  refine oGf X1 H (hV hw 69) e1 F_elementData_o0 d18_11 fun T2 X2 e2 => ?_
  refine oGS X2 H (host := "") (Or.inl (hV hw 68)) Via.refl e2 (S_DEFAULTCAPACITY_EMPTY_ELEMENTDATA.ext OZ.2) d18_14 fun T3 X3 e3 => ?_
  refine own_by (fun t k => Jvm.RoadKit.acmp (g := (mkF m 17 #[rv o0, iv i0, iv (0 : Int32), oU] [(.ref o1), (.ref o1)])) X3 hx rfl rfl rfl (pc0 := 17) (pc' := 45) (same := true) rfl (hb hby d18_17) rfl (decide_eq_true rfl) dE_ dE_ k) ?_
  refine oG X3 H r18_45_48 49 #[rv o0, iv i0, iv (0 : Int32), oU] [(.int i0), (.int (10 : Int32)), (.ref o0)] ?_
  refine ocS X3 H (wb26_ hw) (rm19_51 hw Z0 hp0) e3 1 [(.int (10 : Int32)), (.int i0)] [(.ref o0)] pd_14 d18_49 fun T5 _ _ X5 hQ5 => ?_
  obtain ⟨rfl, N5, e5⟩ := hQ5
  replace N0 := Fr.app N0 N5
  obtain ⟨T6, h6, k6, X6, e6, E6, A6, O6, st6⟩ := newR X5 hx hZ hown (hV hw 119) (hV hw 120) e5 (g := (mkF m 52 #[rv o0, iv i0, iv (0 : Int32), oU] [(.int (10 : Int32)), (.ref o0)])) rfl (hb hby d18_52) rfl dE_ (cap := 10) dE_ dE_ dE_ dE_
  obtain ⟨b6, g6⟩ : ∃ z, z = h0.size := ⟨_, rfl⟩
  rw [← g6] at A6 st6
  have sz_b6 : h0.size ≤ b6 := Nat.le_trans K0.1 (Nat.le_of_eq g6.symm)
  have ne_o0_b6 : o0 ≠ b6 := Nat.ne_of_lt (Nat.lt_of_lt_of_le E_o0.lt (Nat.le_of_eq g6.symm))
  replace E_o0 := E_o0.ext E6
  replace F_modCount_o0 := F_modCount_o0.ext E6
  replace F_elementData_o0 := F_elementData_o0.ext E6
  replace F_size_o0 := F_size_o0.ext E6
  replace K0 := K0.ext E6
  have V_b6 : Arv Z h6 b6 k6 (.object c1_) (10 : Int32) [] .null := Arv.new A6 dE_
  have Ov_k6 := O6
  refine own_by st6 ?_
  refine oB_ (tF_ T6 (mkF m 56 #[rv o0, iv i0, iv (0 : Int32), oU] [(.ref b6), (.ref o0), (.ref b6)])) (fun t k => ?_) ?_
  · refine XS.dupX1 X6.here hx rfl (hb hby d18_55) rfl rfl rfl ?_
    exact k
  refine own_c2 (putF X6 hx hZ hown (host := "") (Or.inl (hV hw 69)) Via.refl e6 F_elementData_o0 E_o0 (Or.inl (hV hw 70)) (hV hw 48) (ty := (.array (.object c1_))) dE_ rfl rfl rfl rfl (hb hby d18_56)) fun T7 h7 X7 e7 W7 => ?_
  replace F_elementData_o0 := F_elementData_o0.same W7
  replace E_o0 := E_o0.wr W7
  replace F_modCount_o0 := F_modCount_o0.other W7 (Or.inr (sn4 hw))
  replace F_size_o0 := F_size_o0.other W7 (Or.inr (sn5 hw))
  replace V_b6 := V_b6.other W7 (Ne.symm ne_o0_b6)
  replace K0 := K0.wr W7 (Or.inl (List.mem_of_getElem? (i := 0) rfl))
  replace N0 := Fr.snoc X7 N0 g_o0
  show own_Go p e below _ (T7.setTop (mkF m 59 #[rv o0, iv i0, iv (0 : Int32), oU] [(.ref b6)]))
  exact own_retR X7 Blk hx Bret rfl rfl rfl (hb hby d18_59) (by
      try rw [show T7.heap = h7 from e7]
      exact ⟨b6, k6, rfl, N0, K0, E_o0, F_modCount_o0, F_elementData_o0, F_size_o0, V_b6, Ov_k6, sz_b6⟩) dE_ dE_

theorem d17_0 : dC27_ 0 (.aload_n 0, 1) := by decide +kernel
theorem d17_1 : dC27_ 1 (.aload_n 0, 1) := by decide +kernel
theorem d17_2 : dC27_ 2 (.getfield 48, 3) := by decide +kernel
theorem d17_5 : dC27_ 5 (.iconst 1, 1) := by decide +kernel
theorem d17_6 : dC27_ 6 (.iadd, 1) := by decide +kernel
theorem d17_7 : dC27_ 7 (.invokevirtual 69, 3) := by decide +kernel
theorem d17_10 : dC27_ 10 (.areturn, 1) := by decide +kernel
theorem r17_0_1 : oDec jdk_38_method_7_code [(0, .aload_n 0, 1), (1, .aload_n 0, 1)] := by decide +kernel
theorem r17_5_5 : oDec jdk_38_method_7_code [(5, .iconst 1, 1)] := by decide +kernel
theorem pn_17 : plainName "java/util/ArrayList" = true := by first | (simp [plainName, overriddenIn]; done) | decide +kernel
theorem pd_13 : parseMethodDescriptor "(I)[Ljava/lang/Object;" = some ⟨[.int], some (.array (.object "java/lang/Object"))⟩ := by decide +kernel
theorem ef_17 (m : MethodId) (x0 : Addr) : entryFrame m #[(.ref x0)] 1 = mkF m 0 #[rv x0] [] := by first | (simp [entryFrame, mkF, argsToLocals, Value.category]; done) | rfl
set_option maxRecDepth 65536 in
set_option maxHeartbeats 40000000 in
theorem rm17_53 (hw : oW_ a0 Z) (Z0 : n0 ≤ h0.size) (g_o0 : n0 ≤ o0) (E_o0 : Exa Z h0 o0 c0_) (F_modCount_o0 : Fld Z h0 o0 c4_ "modCount" "I" (.int i0)) (F_elementData_o0 : Fld Z h0 o0 c0_ "elementData" c3_ (.ref o1)) (F_size_o0 : Fld Z h0 o0 c0_ "size" "I" (.int i1)) (V_o1 : Arv Z h0 o1 k0 (.object c1_) (0 : Int32) [] .null) (S_DEFAULTCAPACITY_EMPTY_ELEMENTDATA : Sta Z Z.heap c0_ c15_ c3_ (.ref o1)) (OZ : Old Z n0 h0) (hp0 : ¬ ((10 : Int32) < (i1 + (1 : Int32)))) :
    oM l (⟨c0_, "grow", "()[Ljava/lang/Object;"⟩ : MethodName) jdk_38_method_7_code 1 (some (.array (.object c1_))) ws (rM_ 2 1 10 29) #[(.ref o0)] Z h0 (fun v h L => ∃ b3_0 : Addr, ∃ k3_1 : ClassId, v = some (.ref b3_0) ∧ Fr n0 L ∧ Keep h0 h [o0] ∧ Exa Z h o0 c0_ ∧ Fld Z h o0 c4_ "modCount" "I" (.int i0) ∧ Fld Z h o0 c0_ "elementData" c3_ (.ref b3_0) ∧ Fld Z h o0 c0_ "size" "I" (.int i1) ∧ Arv Z h b3_0 k3_1 (.object c1_) (10 : Int32) [] .null ∧ Ovr Z k3_1 c1_ ∧ h0.size ≤ b3_0) := by
  refine own_body c0_ (plainFor_of_name pn_17) (fun m => ef_17 m o0) fun p e s m below meth c s₁ X0 H hnm Bret Blk e0 => ?_
  obtain ⟨hx, _, _, _, hby⟩ := id H
  have N0 := Fr.nil n0
  have K0 : Keep h0 h0 [o0] := Keep.refl h0 _
  refine oG X0 H r17_0_1 2 #[rv o0] [(.ref o0), (.ref o0)] ?_
  refine oGf X0 H (hV hw 98) e0 F_size_o0 d17_2 fun T1 X1 e1 => ?_
  refine oG X1 H r17_5_5 6 #[rv o0] [(.int (1 : Int32)), (.int i1), (.ref o0)] ?_
  refine oB_ (tF_ T1 (mkF m 7 #[rv o0] [(.int (i1 + (1 : Int32))), (.ref o0)])) (fun t k => ?_) ?_
  · refine XS.iadd X1.here hx rfl (hb hby d17_6) rfl ?_
    exact k
  refine ocP X1 H (wb27_ hw) (rm18_52 hw Z0 g_o0 E_o0 F_modCount_o0 F_elementData_o0 F_size_o0 V_o1 S_DEFAULTCAPACITY_EMPTY_ELEMENTDATA OZ hp0) e1 0 o0 E_o0 [(.int (i1 + (1 : Int32)))] [] pd_13 d17_7 fun T3 _ _ X3 hQ3 => ?_
  obtain ⟨b3_0, k3_1, rfl, N3, K3, E_o0', F_modCount_o0', F_elementData_o0', F_size_o0', V_b3_0', Ov_k3_1', sz_b3_0'⟩ := hQ3
  replace N0 := Fr.app N0 N3
  have sz_b3_0 := Nat.le_trans K0.1 sz_b3_0'
  replace K0 := K0.trans K3 (allS (Or.inl (List.mem_of_getElem? (i := 0) rfl)) all0)
  replace E_o0 := E_o0'
  have F_modCount_o0 := F_modCount_o0'
  have F_elementData_o0 := F_elementData_o0'
  have F_size_o0 := F_size_o0'
  have V_b3_0 := V_b3_0'
  have Ov_k3_1 := Ov_k3_1'
  exact own_retR X3 Blk hx Bret rfl rfl rfl (hb hby d17_10) ⟨b3_0, k3_1, rfl, N0, K0, E_o0, F_modCount_o0, F_elementData_o0, F_size_o0, V_b3_0, Ov_k3_1, sz_b3_0⟩ dE_ dE_

theorem d16_0 : dC28_ 0 (.iload_n 3, 1) := by decide +kernel
theorem d16_1 : dC28_ 1 (.aload_n 2, 1) := by decide +kernel
theorem d16_2 : dC28_ 2 (.arraylength, 1) := by decide +kernel
theorem d16_3 : dC28_ 3 (.if_icmp .ne 8, 3) := by decide +kernel
theorem d16_6 : dC28_ 6 (.aload_n 0, 1) := by decide +kernel
theorem d16_7 : dC28_ 7 (.invokevirtual 129, 3) := by decide +kernel
theorem d16_10 : dC28_ 10 (.astore_n 2, 1) := by decide +kernel
theorem d16_11 : dC28_ 11 (.aload_n 2, 1) := by decide +kernel
theorem d16_12 : dC28_ 12 (.iload_n 3, 1) := by decide +kernel
theorem d16_13 : dC28_ 13 (.aload_n 1, 1) := by decide +kernel
theorem d16_14 : dC28_ 14 (.aastore, 1) := by decide +kernel
theorem d16_15 : dC28_ 15 (.aload_n 0, 1) := by decide +kernel
theorem d16_16 : dC28_ 16 (.iload_n 3, 1) := by decide +kernel
theorem d16_17 : dC28_ 17 (.iconst 1, 1) := by decide +kernel
theorem d16_18 : dC28_ 18 (.iadd, 1) := by decide +kernel
theorem d16_19 : dC28_ 19 (.putfield 48, 3) := by decide +kernel
theorem d16_22 : dC28_ 22 (.return_, 1) := by decide +kernel
theorem r16_0_1 : oDec jdk_38_method_24_code [(0, .iload_n 3, 1), (1, .aload_n 2, 1)] := by decide +kernel
theorem r16_6_6 : oDec jdk_38_method_24_code [(6, .aload_n 0, 1)] := by decide +kernel
theorem r16_10_13 : oDec jdk_38_method_24_code [(10, .astore_n 2, 1), (11, .aload_n 2, 1), (12, .iload_n 3, 1), (13, .aload_n 1, 1)] := by decide +kernel
theorem r16_15_17 : oDec jdk_38_method_24_code [(15, .aload_n 0, 1), (16, .iload_n 3, 1), (17, .iconst 1, 1)] := by decide +kernel
theorem pn_16 : plainName "java/util/ArrayList" = true := by first | (simp [plainName, overriddenIn]; done) | decide +kernel
theorem pd_12 : parseMethodDescriptor "()[Ljava/lang/Object;" = some ⟨[], some (.array (.object "java/lang/Object"))⟩ := by decide +kernel
theorem ef_16 (m : MethodId) (x0 x1 x2 : Addr) (x3 : Int32) : entryFrame m #[(.ref x0), (.ref x1), (.ref x2), (.int x3)] 4 = mkF m 0 #[rv x0, rv x1, rv x2, iv x3] [] := by first | (simp [entryFrame, mkF, argsToLocals, Value.category]; done) | rfl
set_option maxRecDepth 65536 in
set_option maxHeartbeats 40000000 in
theorem rm16_54 (hw : oW_ a0 Z) (Z0 : n0 ≤ h0.size) (g_o0 : n0 ≤ o0) (E_o0 : Exa Z h0 o0 c0_) (F_modCount_o0 : Fld Z h0 o0 c4_ "modCount" "I" (.int i0)) (F_elementData_o0 : Fld Z h0 o0 c0_ "elementData" c3_ (.ref o2)) (F_size_o0 : Fld Z h0 o0 c0_ "size" "I" (.int i1)) (E_o1 : Exa Z h0 o1 c6_) (V_o2 : Arv Z h0 o2 k0 (.object c1_) (0 : Int32) [] .null) (S_DEFAULTCAPACITY_EMPTY_ELEMENTDATA : Sta Z Z.heap c0_ c15_ c3_ (.ref o2)) (OZ : Old Z n0 h0) (hp0 : ¬ ((10 : Int32) < (i1 + (1 : Int32)))) :
    oM l y14_ jdk_38_method_24_code 4 none ws (rM_ 3 1 10 41) #[(.ref o0), (.ref o1), (.ref o2), oZ] Z h0 (fun v h L => ∃ b2_0 : Addr, ∃ k2_1 : ClassId, v = none ∧ Fr n0 L ∧ Keep h0 h [o0] ∧ Exa Z h o0 c0_ ∧ Fld Z h o0 c4_ "modCount" "I" (.int i0) ∧ Fld Z h o0 c0_ "elementData" c3_ (.ref b2_0) ∧ Fld Z h o0 c0_ "size" "I" (.int (1 : Int32)) ∧ Arv Z h b2_0 k2_1 (.object c1_) (10 : Int32) [(.ref o1)] .null ∧ Ovr Z k2_1 c1_ ∧ h0.size ≤ b2_0) := by
  refine own_body c0_ (plainFor_of_name pn_16) (fun m => ef_16 m o0 o1 o2 (0 : Int32)) fun p e s m below meth c s₁ X0 H hnm Bret Blk e0 => ?_
  obtain ⟨hx, hZ, hown, _, hby⟩ := id H
  have N0 := Fr.nil n0
  have K0 : Keep h0 h0 [o0] := Keep.refl h0 _
  refine oG X0 H r16_0_1 2 #[rv o0, rv o1, rv o2, iv (0 : Int32)] [(.ref o2), oZ] ?_
  refine oLen X0 H e0 V_o2 d16_2 ?_
  refine oCN X0 H oD0 d16_3 #[rv o0, rv o1, rv o2, iv (0 : Int32)] [] rfl (teq (by decide : (0 : Int32) = (0 : Int32))).2 ?_
  refine oH X0 H r16_6_6 7 [(.ref o0)] ?_
  refine ocP X0 H (wb28_ hw) (rm17_53 hw Z0 g_o0 E_o0 F_modCount_o0 F_elementData_o0 F_size_o0 V_o2 S_DEFAULTCAPACITY_EMPTY_ELEMENTDATA OZ hp0) e0 0 o0 E_o0 [] [] pd_12 d16_7 fun T2 _ _ X2 hQ2 => ?_
  obtain ⟨b2_0, k2_1, rfl, N2, K2, E_o0', F_modCount_o0', F_elementData_o0', F_size_o0', V_b2_0', Ov_k2_1', sz_b2_0'⟩ := hQ2
  replace N0 := Fr.app N0 N2
  have g_b2_0 := Nat.le_trans Z0 sz_b2_0'
  have sz_b2_0 := Nat.le_trans K0.1 sz_b2_0'
  have ne_o0_b2_0 := oNl E_o0.lt sz_b2_0'
  replace K0 := K0.trans K2 (allS (Or.inl (List.mem_of_getElem? (i := 0) rfl)) all0)
  replace E_o0 := E_o0'
  have F_modCount_o0 := F_modCount_o0'
  have F_elementData_o0 := F_elementData_o0'
  have F_size_o0 := F_size_o0'
  have V_b2_0 := V_b2_0'
  have Ov_k2_1 := Ov_k2_1'
  refine oG X2 H r16_10_13 14 #[rv o0, rv o1, rv b2_0, iv (0 : Int32)] [(.ref o1), oZ, (.ref b2_0)] ?_
  replace V_b2_0 : Arv Z T2.heap b2_0 k2_1 (.object c1_) (10 : Int32) [.null] .null := V_b2_0.pad (pad_rep [] .null 1)
  obtain ⟨cl3, Ar3, q3, S3, N3, H3, G3⟩ := id V_b2_0
  have hin3 : ¬ ((0 : Int32) < 0 ∨ cl3.slots.size ≤ ((0 : Int32)).toNatClampNeg) := inb_of S3 ⟨by decide, by decide⟩
  refine own_c2 (stR X2 hx hZ rfl Ar3 (j := (0 : Int32)) hin3 rfl (Sto.ofV Ar3 q3 Ov_k2_1 (Ins.of_exa (E_o1.keep K0) (hV hw 121))) rfl rfl (hb hby d16_14)) fun T3 h3 X3 e3 W3 => ?_
  replace V_b2_0 : Arv Z h3 b2_0 k2_1 (.object c1_) (10 : Int32) [(.ref o1)] .null := Arv.set Ar3 q3 S3 N3 H3 G3 rfl W3 0 rfl nB_
  replace E_o0 := E_o0.wr W3
  replace F_modCount_o0 := F_modCount_o0.other W3 (Or.inl ne_o0_b2_0)
  replace F_elementData_o0 := F_elementData_o0.other W3 (Or.inl ne_o0_b2_0)
  replace F_size_o0 := F_size_o0.other W3 (Or.inl ne_o0_b2_0)
  replace K0 := K0.wr W3 (Or.inr sz_b2_0)
  replace N0 := Fr.snoc X3 N0 g_b2_0
  refine oG X3 H r16_15_17 18 #[rv o0, rv o1, rv b2_0, iv (0 : Int32)] [(.int (1 : Int32)), oZ, (.ref o0)] ?_
  refine oB_ (tF_ T3 (mkF m 19 #[rv o0, rv o1, rv b2_0, iv (0 : Int32)] [(.int (1 : Int32)), (.ref o0)])) (fun t k => ?_) ?_
  · refine XS.iadd X3.here hx rfl (hb hby d16_18) rfl ?_
    exact k
  refine own_c2 (putF X3 hx hZ hown (host := "") (Or.inl (hV hw 98)) Via.refl e3 F_size_o0 E_o0 (Or.inl (hV hw 99)) (hV hw 48) (ty := .int) dE_ rfl rfl rfl rfl (hb hby d16_19)) fun T4 h4 X4 e4 W4 => ?_
  replace F_size_o0 := F_size_o0.same W4
  replace E_o0 := E_o0.wr W4
  replace F_modCount_o0 := F_modCount_o0.other W4 (Or.inr (sn17 hw))
  replace F_elementData_o0 := F_elementData_o0.other W4 (Or.inr (sn18 hw))
  replace V_b2_0 := V_b2_0.other W4 (Ne.symm ne_o0_b2_0)
  replace K0 := K0.wr W4 (Or.inl (List.mem_of_getElem? (i := 0) rfl))
  replace N0 := Fr.snoc X4 N0 g_o0
  show own_Go p e below _ (T4.setTop (mkF m 22 #[rv o0, rv o1, rv b2_0, iv (0 : Int32)] []))
  exact own_retV X4 Blk hx Bret (hb hby d16_22) (by
      try rw [show T4.heap = h4 from e4]
      exact ⟨b2_0, k2_1, rfl, N0, K0, E_o0, F_modCount_o0, F_elementData_o0, F_size_o0, V_b2_0, Ov_k2_1, sz_b2_0⟩) dE_ dE_

theorem d15_0 : dC29_ 0 (.aload_n 0, 1) := by decide +kernel
theorem d15_1 : dC29_ 1 (.dup, 1) := by decide +kernel
theorem d15_2 : dC29_ 2 (.getfield 63, 3) := by decide +kernel
theorem d15_5 : dC29_ 5 (.iconst 1, 1) := by decide +kernel
theorem d15_6 : dC29_ 6 (.iadd, 1) := by decide +kernel
theorem d15_7 : dC29_ 7 (.putfield 63, 3) := by decide +kernel
theorem d15_10 : dC29_ 10 (.aload_n 0, 1) := by decide +kernel
theorem d15_11 : dC29_ 11 (.aload_n 1, 1) := by decide +kernel
theorem d15_12 : dC29_ 12 (.aload_n 0, 1) := by decide +kernel
theorem d15_13 : dC29_ 13 (.getfield 9, 3) := by decide +kernel
theorem d15_16 : dC29_ 16 (.aload_n 0, 1) := by decide +kernel
theorem d15_17 : dC29_ 17 (.getfield 48, 3) := by decide +kernel
theorem d15_20 : dC29_ 20 (.invokevirtual 131, 3) := by decide +kernel
theorem d15_23 : dC29_ 23 (.iconst 1, 1) := by decide +kernel
theorem d15_24 : dC29_ 24 (.ireturn, 1) := by decide +kernel
theorem r15_0_1 : oDec jdk_38_method_25_code [(0, .aload_n 0, 1), (1, .dup, 1)] := by decide +kernel
theorem r15_5_5 : oDec jdk_38_method_25_code [(5, .iconst 1, 1)] := by decide +kernel
theorem r15_10_12 : oDec jdk_38_method_25_code [(10, .aload_n 0, 1), (11, .aload_n 1, 1), (12, .aload_n 0, 1)] := by decide +kernel
theorem r15_16_16 : oDec jdk_38_method_25_code [(16, .aload_n 0, 1)] := by decide +kernel
theorem r15_23_23 : oDec jdk_38_method_25_code [(23, .iconst 1, 1)] := by decide +kernel
theorem pn_15 : plainName "java/util/ArrayList" = true := by first | (simp [plainName, overriddenIn]; done) | decide +kernel
theorem pd_11 : parseMethodDescriptor "(Ljava/lang/Object;[Ljava/lang/Object;I)V" = some ⟨[(.object "java/lang/Object"), (.array (.object "java/lang/Object")), .int], none⟩ := by decide +kernel
theorem ef_15 (m : MethodId) (x0 x1 : Addr) : entryFrame m #[(.ref x0), (.ref x1)] 2 = mkF m 0 #[rv x0, rv x1] [] := by first | (simp [entryFrame, mkF, argsToLocals, Value.category]; done) | rfl
set_option maxRecDepth 65536 in
set_option maxHeartbeats 40000000 in
theorem rm15_55 (hw : oW_ a0 Z) (Z0 : n0 ≤ h0.size) (g_o0 : n0 ≤ o0) (E_o0 : Exa Z h0 o0 c0_) (F_modCount_o0 : Fld Z h0 o0 c4_ "modCount" "I" (.int i0)) (F_elementData_o0 : Fld Z h0 o0 c0_ "elementData" c3_ (.ref o2)) (F_size_o0 : Fld Z h0 o0 c0_ "size" "I" oZ) (E_o1 : Exa Z h0 o1 c6_) (V_o2 : Arv Z h0 o2 k0 (.object c1_) (0 : Int32) [] .null) (S_DEFAULTCAPACITY_EMPTY_ELEMENTDATA : Sta Z Z.heap c0_ c15_ c3_ (.ref o2)) (OZ : Old Z n0 h0) :
    oM l y15_ jdk_38_method_25_code 2 (some .boolean) ws (rM_ 4 1 10 56) #[(.ref o0), (.ref o1)] Z h0 (fun v h L => ∃ b6_0 : Addr, ∃ k6_1 : ClassId, v = some (.int (1 : Int32)) ∧ Fr n0 L ∧ Keep h0 h [o0] ∧ Exa Z h o0 c0_ ∧ Fld Z h o0 c4_ "modCount" "I" (.int (i0 + (1 : Int32))) ∧ Fld Z h o0 c0_ "elementData" c3_ (.ref b6_0) ∧ Fld Z h o0 c0_ "size" "I" (.int (1 : Int32)) ∧ Arv Z h b6_0 k6_1 (.object c1_) (10 : Int32) [(.ref o1)] .null ∧ Ovr Z k6_1 c1_ ∧ h0.size ≤ b6_0) := by
  refine own_body c0_ (plainFor_of_name pn_15) (fun m => ef_15 m o0 o1) fun p e s m below meth c s₁ X0 H hnm Bret Blk e0 => ?_
  obtain ⟨hx, hZ, hown, _, hby⟩ := id H
  have N0 := Fr.nil n0
  have K0 : Keep h0 h0 [o0] := Keep.refl h0 _
  have nx1 : o2 ≠ o0 := (Ne.symm (own_nev E_o0 (hV hw 48) V_o2))
  refine oG X0 H r15_0_1 2 #[rv o0, rv o1] [(.ref o0), (.ref o0)] ?_
  refine oGF X0 H (host := "") (Or.inl (hV hw 96)) (Via.of (hV hw 97)) e0 F_modCount_o0 d15_2 fun T1 X1 e1 => ?_
  refine oG X1 H r15_5_5 6 #[rv o0, rv o1] [(.int (1 : Int32)), (.int i0), (.ref o0)] ?_
  refine oB_ (tF_ T1 (mkF m 7 #[rv o0, rv o1] [(.int (i0 + (1 : Int32))), (.ref o0)])) (fun t k => ?_) ?_
  · refine XS.iadd X1.here hx rfl (hb hby d15_6) rfl ?_
    exact k
  refine own_c2 (putF X1 hx hZ hown (host := "") (Or.inl (hV hw 96)) (Via.of (hV hw 97)) e1 F_modCount_o0 E_o0 (Or.inl (hV hw 67)) (hV hw 48) (ty := .int) dE_ rfl rfl rfl rfl (hb hby d15_7)) fun T2 h2 X2 e2 W2 => ?_
  replace F_modCount_o0 := F_modCount_o0.same W2
  replace E_o0 := E_o0.wr W2
  replace F_elementData_o0 := F_elementData_o0.other W2 (Or.inr (sn2 hw))
  replace F_size_o0 := F_size_o0.other W2 (Or.inr (sn3 hw))
  replace OZ := OZ.wr W2 g_o0
  replace K0 := K0.wr W2 (Or.inl (List.mem_of_getElem? (i := 0) rfl))
  replace Z0 := Nat.le_trans Z0 (Keep.of_wr W2).1
  replace N0 := Fr.snoc X2 N0 g_o0
  refine oG X2 H r15_10_12 13 #[rv o0, rv o1] [(.ref o0), (.ref o1), (.ref o0)] ?_
  refine oGf X2 H (hV hw 69) e2 F_elementData_o0 d15_13 fun T3 X3 e3 => ?_
  refine oG X3 H r15_16_16 17 #[rv o0, rv o1] [(.ref o0), (.ref o2), (.ref o1), (.ref o0)] ?_
  refine oGf X3 H (hV hw 98) e3 F_size_o0 d15_17 fun T4 X4 e4 => ?_
  refine ocP X4 H (wb29_ hw) (rm16_54 hw Z0 g_o0 E_o0 F_modCount_o0 F_elementData_o0 F_size_o0 (E_o1.keep K0) (V_o2.keep K0 (ninS nx1 nin0)) S_DEFAULTCAPACITY_EMPTY_ELEMENTDATA OZ (by decide : ¬ ((10 : Int32) < (1 : Int32)))) e4 0 o0 E_o0 [(.ref o1), (.ref o2), oZ] [] pd_11 d15_20 fun T6 _ _ X6 hQ6 => ?_
  obtain ⟨b6_0, k6_1, rfl, N6, K6, E_o0', F_modCount_o0', F_elementData_o0', F_size_o0', V_b6_0', Ov_k6_1', sz_b6_0'⟩ := hQ6
  replace N0 := Fr.app N0 N6
  have sz_b6_0 := Nat.le_trans K0.1 sz_b6_0'
  replace K0 := K0.trans K6 (allS (Or.inl (List.mem_of_getElem? (i := 0) rfl)) all0)
  replace E_o0 := E_o0'
  have F_modCount_o0 := F_modCount_o0'
  have F_elementData_o0 := F_elementData_o0'
  have F_size_o0 := F_size_o0'
  have V_b6_0 := V_b6_0'
  have Ov_k6_1 := Ov_k6_1'
  refine oG X6 H r15_23_23 24 #[rv o0, rv o1] [(.int (1 : Int32))] ?_
  exact own_retN X6 Blk hx (t := .boolean) Bret (by simp) (hb hby d15_24) ⟨b6_0, k6_1, rfl, N0, K0, E_o0, F_modCount_o0, F_elementData_o0, F_size_o0, V_b6_0, Ov_k6_1, sz_b6_0⟩ dE_ dE_

theorem d24_14 : dC22_ 14 (.iconst 1, 1) := by decide +kernel
theorem d24_15 : dC22_ 15 (.goto 4, 3) := by decide +kernel
theorem r24_14_15 : oDec jdk_49_method_2_code [(14, .iconst 1, 1), (15, .goto 4, 3)] := by decide +kernel
set_option maxRecDepth 65536 in
set_option maxHeartbeats 40000000 in
theorem rm24_56 (hw : oW_ a0 Z) (Z0 : n0 ≤ h0.size) (F_this_0_o0 : Fld Z h0 o0 c5_ "this$0" c14_ (.ref o2)) (F_cursor_o0 : Fld Z h0 o0 c5_ "cursor" "I" (.int i2)) (F_size_o2 : Fld Z h0 o2 c0_ "size" "I" (.int i3)) (hp0 : ¬ (i2 = i3)) :
    oM l y12_ jdk_49_method_2_code 1 (some .boolean) ws (rM_ 0 0 0 0) #[(.ref o0)] Z h0 (fun v h L => v = some (.int (1 : Int32)) ∧ Fr n0 L ∧ h = h0) := by
  refine own_body c5_ (plainFor_of_name pn_24) (fun m => ef_24 m o0) fun p e s m below meth c s₁ X0 H hnm Bret Blk e0 => ?_
  obtain ⟨hx, _, _, _, hby⟩ := id H
  have N0 := Fr.nil n0
  refine oG X0 H r24_0_0 1 #[rv o0] [(.ref o0)] ?_
  refine oGf X0 H (hV hw 170) e0 F_cursor_o0 d24_1 fun T1 X1 e1 => ?_
  refine oG X1 H r24_4_4 5 #[rv o0] [(.ref o0), (.int i2)] ?_
  refine oGf X1 H (hV hw 153) e1 F_this_0_o0 d24_5 fun T2 X2 e2 => ?_
  refine oGF X2 H (Or.inr (hV hw 172)) Via.refl e2 F_size_o2 d24_8 fun T3 X3 e3 => ?_
  refine oCN X3 H oD0 d24_11 #[rv o0] [] rfl (feq hp0).1 ?_
  refine oH X3 H r24_14_15 19 [(.int (1 : Int32))] ?_
  exact own_retN X3 Blk hx (t := .boolean) Bret (by simp) (hb hby d24_19) (by
      try rw [show T3.heap = h0 from e3]
      exact ⟨rfl, N0, rfl⟩) dE_ dE_

theorem d26_0 : dC30_ 0 (.aload_n 0, 1) := by decide +kernel
theorem d26_1 : dC30_ 1 (.getfield 1, 3) := by decide +kernel
theorem d26_4 : dC30_ 4 (.getfield 17, 3) := by decide +kernel
theorem d26_7 : dC30_ 7 (.aload_n 0, 1) := by decide +kernel
theorem d26_8 : dC30_ 8 (.getfield 22, 3) := by decide +kernel
theorem d26_11 : dC30_ 11 (.if_icmp .eq 11, 3) := by decide +kernel
theorem d26_22 : dC30_ 22 (.return_, 1) := by decide +kernel
theorem r26_0_0 : oDec jdk_49_method_6_code [(0, .aload_n 0, 1)] := by decide +kernel
theorem r26_7_7 : oDec jdk_49_method_6_code [(7, .aload_n 0, 1)] := by decide +kernel
theorem pn_26 : plainName "java/util/ArrayList$Itr" = true := by first | (simp [plainName, overriddenIn]; done) | decide +kernel
theorem ef_26 (m : MethodId) (x0 : Addr) : entryFrame m #[(.ref x0)] 1 = mkF m 0 #[rv x0] [] := by first | (simp [entryFrame, mkF, argsToLocals, Value.category]; done) | rfl
set_option maxRecDepth 65536 in
set_option maxHeartbeats 40000000 in
theorem rm26_57 (hw : oW_ a0 Z) (Z0 : n0 ≤ h0.size) (F_this_0_o0 : Fld Z h0 o0 c5_ "this$0" c14_ (.ref o2)) (F_expectedModCount_o0 : Fld Z h0 o0 c5_ c17_ "I" (.int i1)) (F_modCount_o2 : Fld Z h0 o2 c4_ "modCount" "I" (.int i1)) :
    oM l (⟨c5_, "checkForComodification", "()V"⟩ : MethodName) jdk_49_method_6_code 1 none ws (rM_ 0 0 0 0) #[(.ref o0)] Z h0 (fun v h L => v = none ∧ Fr n0 L ∧ h = h0) := by
  refine own_body c5_ (plainFor_of_name pn_26) (fun m => ef_26 m o0) fun p e s m below meth c s₁ X0 H hnm Bret Blk e0 => ?_
  obtain ⟨hx, _, _, _, hby⟩ := id H
  have N0 := Fr.nil n0
  refine oG X0 H r26_0_0 1 #[rv o0] [(.ref o0)] ?_
  refine oGf X0 H (hV hw 153) e0 F_this_0_o0 d26_1 fun T1 X1 e1 => ?_
  refine oGF X1 H (host := "") (Or.inl (hV hw 158)) (Via.of (hV hw 97)) e1 F_modCount_o2 d26_4 fun T2 X2 e2 => ?_
  refine oG X2 H r26_7_7 8 #[rv o0] [(.ref o0), (.int i1)] ?_
  refine oGf X2 H (hV hw 159) e2 F_expectedModCount_o0 d26_8 fun T3 X3 e3 => ?_
  refine oCY X3 H oD0 d26_11 22 #[rv o0] [] rfl (teq (rfl : i1 = i1)).1 ?_
  exact own_retV X3 Blk hx Bret (hb hby d26_22) (by
      try rw [show T3.heap = h0 from e3]
      exact ⟨rfl, N0, rfl⟩) dE_ dE_

theorem d25_0 : dC31_ 0 (.aload_n 0, 1) := by decide +kernel
theorem d25_1 : dC31_ 1 (.invokevirtual 31, 3) := by decide +kernel
theorem d25_4 : dC31_ 4 (.aload_n 0, 1) := by decide +kernel
theorem d25_5 : dC31_ 5 (.getfield 25, 3) := by decide +kernel
theorem d25_8 : dC31_ 8 (.istore_n 1, 1) := by decide +kernel
theorem d25_9 : dC31_ 9 (.iload_n 1, 1) := by decide +kernel
theorem d25_10 : dC31_ 10 (.aload_n 0, 1) := by decide +kernel
theorem d25_11 : dC31_ 11 (.getfield 1, 3) := by decide +kernel
theorem d25_14 : dC31_ 14 (.getfield 28, 3) := by decide +kernel
theorem d25_17 : dC31_ 17 (.if_icmp .lt 11, 3) := by decide +kernel
theorem d25_28 : dC31_ 28 (.aload_n 0, 1) := by decide +kernel
theorem d25_29 : dC31_ 29 (.getfield 1, 3) := by decide +kernel
theorem d25_32 : dC31_ 32 (.getfield 37, 3) := by decide +kernel
theorem d25_35 : dC31_ 35 (.astore_n 2, 1) := by decide +kernel
theorem d25_36 : dC31_ 36 (.iload_n 1, 1) := by decide +kernel
theorem d25_37 : dC31_ 37 (.aload_n 2, 1) := by decide +kernel
theorem d25_38 : dC31_ 38 (.arraylength, 1) := by decide +kernel
theorem d25_39 : dC31_ 39 (.if_icmp .lt 11, 3) := by decide +kernel
theorem d25_50 : dC31_ 50 (.aload_n 0, 1) := by decide +kernel
theorem d25_51 : dC31_ 51 (.iload_n 1, 1) := by decide +kernel
theorem d25_52 : dC31_ 52 (.iconst 1, 1) := by decide +kernel
theorem d25_53 : dC31_ 53 (.iadd, 1) := by decide +kernel
theorem d25_54 : dC31_ 54 (.putfield 25, 3) := by decide +kernel
theorem d25_57 : dC31_ 57 (.aload_n 2, 1) := by decide +kernel
theorem d25_58 : dC31_ 58 (.aload_n 0, 1) := by decide +kernel
theorem d25_59 : dC31_ 59 (.iload_n 1, 1) := by decide +kernel
theorem d25_60 : dC31_ 60 (.dup_x1, 1) := by decide +kernel
theorem d25_61 : dC31_ 61 (.putfield 13, 3) := by decide +kernel
theorem d25_64 : dC31_ 64 (.aaload, 1) := by decide +kernel
theorem d25_65 : dC31_ 65 (.areturn, 1) := by decide +kernel
theorem r25_0_0 : oDec jdk_49_method_3_code [(0, .aload_n 0, 1)] := by decide +kernel
theorem r25_4_4 : oDec jdk_49_method_3_code [(4, .aload_n 0, 1)] := by decide +kernel
theorem r25_8_10 : oDec jdk_49_method_3_code [(8, .istore_n 1, 1), (9, .iload_n 1, 1), (10, .aload_n 0, 1)] := by decide +kernel
theorem r25_28_28 : oDec jdk_49_method_3_code [(28, .aload_n 0, 1)] := by decide +kernel
theorem r25_35_37 : oDec jdk_49_method_3_code [(35, .astore_n 2, 1), (36, .iload_n 1, 1), (37, .aload_n 2, 1)] := by decide +kernel
theorem r25_50_52 : oDec jdk_49_method_3_code [(50, .aload_n 0, 1), (51, .iload_n 1, 1), (52, .iconst 1, 1)] := by decide +kernel
theorem r25_57_59 : oDec jdk_49_method_3_code [(57, .aload_n 2, 1), (58, .aload_n 0, 1), (59, .iload_n 1, 1)] := by decide +kernel
theorem pn_25 : plainName "java/util/ArrayList$Itr" = true := by first | (simp [plainName, overriddenIn]; done) | decide +kernel
theorem ef_25 (m : MethodId) (x0 : Addr) : entryFrame m #[(.ref x0)] 3 = mkF m 0 #[rv x0, oU, oU] [] := by first | (simp [entryFrame, mkF, argsToLocals, Value.category]; done) | rfl
set_option maxRecDepth 65536 in
set_option maxHeartbeats 40000000 in
theorem rm25_58 (hw : oW_ a0 Z) (Z0 : n0 ≤ h0.size) (g_o0 : n0 ≤ o0) (E_o0 : Exa Z h0 o0 c5_) (F_this_0_o0 : Fld Z h0 o0 c5_ "this$0" c14_ (.ref o2)) (F_lastRet_o0 : Fld Z h0 o0 c5_ "lastRet" "I" (.int i0)) (F_expectedModCount_o0 : Fld Z h0 o0 c5_ c17_ "I" (.int i1)) (F_cursor_o0 : Fld Z h0 o0 c5_ "cursor" "I" oZ) (F_modCount_o2 : Fld Z h0 o2 c4_ "modCount" "I" (.int i1)) (F_elementData_o2 : Fld Z h0 o2 c0_ "elementData" c3_ (.ref o3)) (F_size_o2 : Fld Z h0 o2 c0_ "size" "I" (.int i2)) (V_o3 : Arv Z h0 o3 k1 (.object c1_) (10 : Int32) [(.ref o4)] .null) (ne_o2_o0 : o2 ≠ o0) (hp0 : (0 : Int32) < i2) :
    oM l y16_ jdk_49_method_3_code 3 (some (.object c1_)) ws (rM_ 1 0 0 12) #[(.ref o0)] Z h0 (fun v h L => v = some (.ref o4) ∧ Fr n0 L ∧ Keep h0 h [o0] ∧ Exa Z h o0 c5_ ∧ Fld Z h o0 c5_ "this$0" c14_ (.ref o2) ∧ Fld Z h o0 c5_ "lastRet" "I" oZ ∧ Fld Z h o0 c5_ c17_ "I" (.int i1) ∧ Fld Z h o0 c5_ "cursor" "I" (.int (1 : Int32))) := by
  refine own_body c5_ (plainFor_of_name pn_25) (fun m => ef_25 m o0) fun p e s m below meth c s₁ X0 H hnm Bret Blk e0 => ?_
  obtain ⟨hx, hZ, hown, _, hby⟩ := id H
  have N0 := Fr.nil n0
  have K0 : Keep h0 h0 [o0] := Keep.refl h0 _
  have nx1 : o3 ≠ o0 := (Ne.symm (own_nev E_o0 (hV hw 147) V_o3))
  refine oG X0 H r25_0_0 1 #[rv o0, oU, oU] [(.ref o0)] ?_
  refine ocV X0 H (wb31_ hw) (rm26_57 hw Z0 F_this_0_o0 F_expectedModCount_o0 F_modCount_o2) e0 0 o0 E_o0 [] [] pd_3 d25_1 fun T2 _ _ X2 hQ2 => ?_
  obtain ⟨rfl, N2, e2⟩ := hQ2
  replace N0 := Fr.app N0 N2
  refine oG X2 H r25_4_4 5 #[rv o0, oU, oU] [(.ref o0)] ?_
  refine oGf X2 H (hV hw 170) e2 F_cursor_o0 d25_5 fun T3 X3 e3 => ?_
  refine oG X3 H r25_8_10 11 #[rv o0, iv (0 : Int32), oU] [(.ref o0), oZ] ?_
  refine oGf X3 H (hV hw 153) e3 F_this_0_o0 d25_11 fun T4 X4 e4 => ?_
  refine oGF X4 H (Or.inr (hV hw 172)) Via.refl e4 F_size_o2 d25_14 fun T5 X5 e5 => ?_
  refine oCY X5 H oD0 d25_17 28 #[rv o0, iv (0 : Int32), oU] [] rfl (tlt hp0).1 ?_
  refine oH X5 H r25_28_28 29 [(.ref o0)] ?_
  refine oGf X5 H (hV hw 153) e5 F_this_0_o0 d25_29 fun T6 X6 e6 => ?_
  refine oGf X6 H (hV hw 186) e6 F_elementData_o2 d25_32 fun T7 X7 e7 => ?_
  refine oG X7 H r25_35_37 38 #[rv o0, iv (0 : Int32), rv o3] [(.ref o3), oZ] ?_
  refine oLen X7 H e7 V_o3 d25_38 ?_
  refine oCY X7 H oD0 d25_39 50 #[rv o0, iv (0 : Int32), rv o3] [] rfl (tlt (by decide : (0 : Int32) < (10 : Int32))).1 ?_
  refine oH X7 H r25_50_52 53 [(.int (1 : Int32)), oZ, (.ref o0)] ?_
  refine oB_ (tF_ T7 (mkF m 54 #[rv o0, iv (0 : Int32), rv o3] [(.int (1 : Int32)), (.ref o0)])) (fun t k => ?_) ?_
  · refine XS.iadd X7.here hx rfl (hb hby d25_53) rfl ?_
    exact k
  refine own_c2 (putF X7 hx hZ hown (host := "") (Or.inl (hV hw 170)) Via.refl e7 F_cursor_o0 E_o0 (Or.inl (hV hw 171)) (hV hw 147) (ty := .int) dE_ rfl rfl rfl rfl (hb hby d25_54)) fun T8 h8 X8 e8 W8 => ?_
  replace F_cursor_o0 := F_cursor_o0.same W8
  replace E_o0 := E_o0.wr W8
  replace F_this_0_o0 := F_this_0_o0.other W8 (Or.inr (sn19 hw))
  replace F_lastRet_o0 := F_lastRet_o0.other W8 (Or.inr (sn20 hw))
  replace F_expectedModCount_o0 := F_expectedModCount_o0.other W8 (Or.inr (sn21 hw))
  replace K0 := K0.wr W8 (Or.inl (List.mem_of_getElem? (i := 0) rfl))
  replace N0 := Fr.snoc X8 N0 g_o0
  refine oG X8 H r25_57_59 60 #[rv o0, iv (0 : Int32), rv o3] [oZ, (.ref o0), (.ref o3)] ?_
  refine oB_ (tF_ T8 (mkF m 61 #[rv o0, iv (0 : Int32), rv o3] [oZ, (.ref o0), oZ, (.ref o3)])) (fun t k => ?_) ?_
  · refine XS.dupX1 X8.here hx rfl (hb hby d25_60) rfl rfl rfl ?_
    exact k
  refine own_c2 (putF X8 hx hZ hown (host := "") (Or.inl (hV hw 156)) Via.refl e8 F_lastRet_o0 E_o0 (Or.inl (hV hw 157)) (hV hw 147) (ty := .int) dE_ rfl rfl rfl rfl (hb hby d25_61)) fun T9 h9 X9 e9 W9 => ?_
  replace F_lastRet_o0 := F_lastRet_o0.same W9
  replace E_o0 := E_o0.wr W9
  replace F_this_0_o0 := F_this_0_o0.other W9 (Or.inr (sn9 hw))
  replace F_expectedModCount_o0 := F_expectedModCount_o0.other W9 (Or.inr (sn10 hw))
  replace F_cursor_o0 := F_cursor_o0.other W9 (Or.inr (sn11 hw))
  replace K0 := K0.wr W9 (Or.inl (List.mem_of_getElem? (i := 0) rfl))
  replace N0 := Fr.snoc X9 N0 g_o0
  refine oAal X9 H e9 (V_o3.keep K0 (ninS nx1 nin0)) d25_64 (.ref o4) ?_
  exact own_retR X9 Blk hx Bret rfl rfl rfl (hb hby d25_65) (by
      try rw [show T9.heap = h9 from e9]
      exact ⟨rfl, N0, K0, E_o0, F_this_0_o0, F_lastRet_o0, F_expectedModCount_o0, F_cursor_o0⟩) dE_ dE_

theorem d27_0 : dC32_ 0 (.aload_n 0, 1) := by decide +kernel
theorem d27_1 : dC32_ 1 (.getfield 7, 3) := by decide +kernel
theorem d27_4 : dC32_ 4 (.areturn, 1) := by decide +kernel
theorem r27_0_0 : oDec prog_26_method_5_code [(0, .aload_n 0, 1)] := by decide +kernel
theorem pn_27 : plainName "com/example/patient_tape/patienttape/StrictJson$Member" = true := by first | (simp [plainName, overriddenIn]; done) | decide +kernel
theorem ef_27 (m : MethodId) (x0 : Addr) : entryFrame m #[(.ref x0)] 1 = mkF m 0 #[rv x0] [] := by first | (simp [entryFrame, mkF, argsToLocals, Value.category]; done) | rfl
set_option maxRecDepth 65536 in
set_option maxHeartbeats 40000000 in
theorem rm27_59 (hw : oW_ a0 Z) (Z0 : n0 ≤ h0.size) (F_name_o0 : Fld Z h0 o0 c6_ "name" c9_ (.ref o2)) :
    oM l (⟨c6_, "name", "()Ljava/lang/String;"⟩ : MethodName) prog_26_method_5_code 1 (some (.object c2_)) ws (rM_ 0 0 0 0) #[(.ref o0)] Z h0 (fun v h L => v = some (.ref o2) ∧ Fr n0 L ∧ h = h0) := by
  refine own_body c6_ (plainFor_of_name pn_27) (fun m => ef_27 m o0) fun p e s m below meth c s₁ X0 H hnm Bret Blk e0 => ?_
  obtain ⟨hx, _, _, _, hby⟩ := id H
  have N0 := Fr.nil n0
  refine oG X0 H r27_0_0 1 #[rv o0] [(.ref o0)] ?_
  refine oGf X0 H (hV hw 83) e0 F_name_o0 d27_1 fun T1 X1 e1 => ?_
  exact own_retR X1 Blk hx Bret rfl rfl rfl (hb hby d27_4) (by
      try rw [show T1.heap = h0 from e1]
      exact ⟨rfl, N0, rfl⟩) dE_ dE_

theorem d31_0 : dC33_ 0 (.aload_n 0, 1) := by decide +kernel
theorem d31_1 : dC33_ 1 (.getfield 13, 3) := by decide +kernel
theorem d31_4 : dC33_ 4 (.areturn, 1) := by decide +kernel
theorem r31_0_0 : oDec prog_26_method_6_code [(0, .aload_n 0, 1)] := by decide +kernel
theorem pn_31 : plainName "com/example/patient_tape/patienttape/StrictJson$Member" = true := by first | (simp [plainName, overriddenIn]; done) | decide +kernel
theorem ef_31 (m : MethodId) (x0 : Addr) : entryFrame m #[(.ref x0)] 1 = mkF m 0 #[rv x0] [] := by first | (simp [entryFrame, mkF, argsToLocals, Value.category]; done) | rfl
set_option maxRecDepth 65536 in
set_option maxHeartbeats 40000000 in
theorem rm31_60 (hw : oW_ a0 Z) (Z0 : n0 ≤ h0.size) (F_value_o0 : Fld Z h0 o0 c6_ "value" c11_ (.ref o3)) :
    oM l (⟨c6_, "value", c23_⟩ : MethodName) prog_26_method_6_code 1 (some (.object c1_)) ws (rM_ 0 0 0 0) #[(.ref o0)] Z h0 (fun v h L => v = some (.ref o3) ∧ Fr n0 L ∧ h = h0) := by
  refine own_body c6_ (plainFor_of_name pn_31) (fun m => ef_31 m o0) fun p e s m below meth c s₁ X0 H hnm Bret Blk e0 => ?_
  obtain ⟨hx, _, _, _, hby⟩ := id H
  have N0 := Fr.nil n0
  refine oG X0 H r31_0_0 1 #[rv o0] [(.ref o0)] ?_
  refine oGf X0 H (hV hw 85) e0 F_value_o0 d31_1 fun T1 X1 e1 => ?_
  exact own_retR X1 Blk hx Bret rfl rfl rfl (hb hby d31_4) (by
      try rw [show T1.heap = h0 from e1]
      exact ⟨rfl, N0, rfl⟩) dE_ dE_

set_option maxRecDepth 65536 in
set_option maxHeartbeats 40000000 in
theorem rm16_61 (hw : oW_ a0 Z) (Z0 : n0 ≤ h0.size) (g_o0 : n0 ≤ o0) (E_o0 : Exa Z h0 o0 c0_) (F_modCount_o0 : Fld Z h0 o0 c4_ "modCount" "I" (.int i0)) (F_elementData_o0 : Fld Z h0 o0 c0_ "elementData" c3_ (.ref o2)) (F_size_o0 : Fld Z h0 o0 c0_ "size" "I" (.int i1)) (E_o1 : Exa Z h0 o1 c8_) (V_o2 : Arv Z h0 o2 k0 (.object c1_) (0 : Int32) [] .null) (S_DEFAULTCAPACITY_EMPTY_ELEMENTDATA : Sta Z Z.heap c0_ c15_ c3_ (.ref o2)) (OZ : Old Z n0 h0) (hp0 : ¬ ((10 : Int32) < (i1 + (1 : Int32)))) :
    oM l y14_ jdk_38_method_24_code 4 none ws (rM_ 3 1 10 41) #[(.ref o0), (.ref o1), (.ref o2), oZ] Z h0 (fun v h L => ∃ b2_0 : Addr, ∃ k2_1 : ClassId, v = none ∧ Fr n0 L ∧ Keep h0 h [o0] ∧ Exa Z h o0 c0_ ∧ Fld Z h o0 c4_ "modCount" "I" (.int i0) ∧ Fld Z h o0 c0_ "elementData" c3_ (.ref b2_0) ∧ Fld Z h o0 c0_ "size" "I" (.int (1 : Int32)) ∧ Arv Z h b2_0 k2_1 (.object c1_) (10 : Int32) [(.ref o1)] .null ∧ Ovr Z k2_1 c1_ ∧ h0.size ≤ b2_0) := by
  refine own_body c0_ (plainFor_of_name pn_16) (fun m => ef_16 m o0 o1 o2 (0 : Int32)) fun p e s m below meth c s₁ X0 H hnm Bret Blk e0 => ?_
  obtain ⟨hx, hZ, hown, _, hby⟩ := id H
  have N0 := Fr.nil n0
  have K0 : Keep h0 h0 [o0] := Keep.refl h0 _
  refine oG X0 H r16_0_1 2 #[rv o0, rv o1, rv o2, iv (0 : Int32)] [(.ref o2), oZ] ?_
  refine oLen X0 H e0 V_o2 d16_2 ?_
  refine oCN X0 H oD0 d16_3 #[rv o0, rv o1, rv o2, iv (0 : Int32)] [] rfl (teq (by decide : (0 : Int32) = (0 : Int32))).2 ?_
  refine oH X0 H r16_6_6 7 [(.ref o0)] ?_
  refine ocP X0 H (wb28_ hw) (rm17_53 hw Z0 g_o0 E_o0 F_modCount_o0 F_elementData_o0 F_size_o0 V_o2 S_DEFAULTCAPACITY_EMPTY_ELEMENTDATA OZ hp0) e0 0 o0 E_o0 [] [] pd_12 d16_7 fun T2 _ _ X2 hQ2 => ?_
  obtain ⟨b2_0, k2_1, rfl, N2, K2, E_o0', F_modCount_o0', F_elementData_o0', F_size_o0', V_b2_0', Ov_k2_1', sz_b2_0'⟩ := hQ2
  replace N0 := Fr.app N0 N2
  have g_b2_0 := Nat.le_trans Z0 sz_b2_0'
  have sz_b2_0 := Nat.le_trans K0.1 sz_b2_0'
  have ne_o0_b2_0 := oNl E_o0.lt sz_b2_0'
  replace K0 := K0.trans K2 (allS (Or.inl (List.mem_of_getElem? (i := 0) rfl)) all0)
  replace E_o0 := E_o0'
  have F_modCount_o0 := F_modCount_o0'
  have F_elementData_o0 := F_elementData_o0'
  have F_size_o0 := F_size_o0'
  have V_b2_0 := V_b2_0'
  have Ov_k2_1 := Ov_k2_1'
  refine oG X2 H r16_10_13 14 #[rv o0, rv o1, rv b2_0, iv (0 : Int32)] [(.ref o1), oZ, (.ref b2_0)] ?_
  replace V_b2_0 : Arv Z T2.heap b2_0 k2_1 (.object c1_) (10 : Int32) [.null] .null := V_b2_0.pad (pad_rep [] .null 1)
  obtain ⟨cl3, Ar3, q3, S3, N3, H3, G3⟩ := id V_b2_0
  have hin3 : ¬ ((0 : Int32) < 0 ∨ cl3.slots.size ≤ ((0 : Int32)).toNatClampNeg) := inb_of S3 ⟨by decide, by decide⟩
  refine own_c2 (stR X2 hx hZ rfl Ar3 (j := (0 : Int32)) hin3 rfl (Sto.ofV Ar3 q3 Ov_k2_1 (Ins.of_exa (E_o1.keep K0) (hV hw 222))) rfl rfl (hb hby d16_14)) fun T3 h3 X3 e3 W3 => ?_
  replace V_b2_0 : Arv Z h3 b2_0 k2_1 (.object c1_) (10 : Int32) [(.ref o1)] .null := Arv.set Ar3 q3 S3 N3 H3 G3 rfl W3 0 rfl nB_
  replace E_o0 := E_o0.wr W3
  replace F_modCount_o0 := F_modCount_o0.other W3 (Or.inl ne_o0_b2_0)
  replace F_elementData_o0 := F_elementData_o0.other W3 (Or.inl ne_o0_b2_0)
  replace F_size_o0 := F_size_o0.other W3 (Or.inl ne_o0_b2_0)
  replace K0 := K0.wr W3 (Or.inr sz_b2_0)
  replace N0 := Fr.snoc X3 N0 g_b2_0
  refine oG X3 H r16_15_17 18 #[rv o0, rv o1, rv b2_0, iv (0 : Int32)] [(.int (1 : Int32)), oZ, (.ref o0)] ?_
  refine oB_ (tF_ T3 (mkF m 19 #[rv o0, rv o1, rv b2_0, iv (0 : Int32)] [(.int (1 : Int32)), (.ref o0)])) (fun t k => ?_) ?_
  · refine XS.iadd X3.here hx rfl (hb hby d16_18) rfl ?_
    exact k
  refine own_c2 (putF X3 hx hZ hown (host := "") (Or.inl (hV hw 98)) Via.refl e3 F_size_o0 E_o0 (Or.inl (hV hw 99)) (hV hw 48) (ty := .int) dE_ rfl rfl rfl rfl (hb hby d16_19)) fun T4 h4 X4 e4 W4 => ?_
  replace F_size_o0 := F_size_o0.same W4
  replace E_o0 := E_o0.wr W4
  replace F_modCount_o0 := F_modCount_o0.other W4 (Or.inr (sn17 hw))
  replace F_elementData_o0 := F_elementData_o0.other W4 (Or.inr (sn18 hw))
  replace V_b2_0 := V_b2_0.other W4 (Ne.symm ne_o0_b2_0)
  replace K0 := K0.wr W4 (Or.inl (List.mem_of_getElem? (i := 0) rfl))
  replace N0 := Fr.snoc X4 N0 g_o0
  show own_Go p e below _ (T4.setTop (mkF m 22 #[rv o0, rv o1, rv b2_0, iv (0 : Int32)] []))
  exact own_retV X4 Blk hx Bret (hb hby d16_22) (by
      try rw [show T4.heap = h4 from e4]
      exact ⟨b2_0, k2_1, rfl, N0, K0, E_o0, F_modCount_o0, F_elementData_o0, F_size_o0, V_b2_0, Ov_k2_1, sz_b2_0⟩) dE_ dE_

set_option maxRecDepth 65536 in
set_option maxHeartbeats 40000000 in
theorem rm15_62 (hw : oW_ a0 Z) (Z0 : n0 ≤ h0.size) (g_o0 : n0 ≤ o0) (E_o0 : Exa Z h0 o0 c0_) (F_modCount_o0 : Fld Z h0 o0 c4_ "modCount" "I" (.int i0)) (F_elementData_o0 : Fld Z h0 o0 c0_ "elementData" c3_ (.ref o2)) (F_size_o0 : Fld Z h0 o0 c0_ "size" "I" oZ) (E_o1 : Exa Z h0 o1 c8_) (V_o2 : Arv Z h0 o2 k0 (.object c1_) (0 : Int32) [] .null) (S_DEFAULTCAPACITY_EMPTY_ELEMENTDATA : Sta Z Z.heap c0_ c15_ c3_ (.ref o2)) (OZ : Old Z n0 h0) :
    oM l y15_ jdk_38_method_25_code 2 (some .boolean) ws (rM_ 4 1 10 56) #[(.ref o0), (.ref o1)] Z h0 (fun v h L => ∃ b6_0 : Addr, ∃ k6_1 : ClassId, v = some (.int (1 : Int32)) ∧ Fr n0 L ∧ Keep h0 h [o0] ∧ Exa Z h o0 c0_ ∧ Fld Z h o0 c4_ "modCount" "I" (.int (i0 + (1 : Int32))) ∧ Fld Z h o0 c0_ "elementData" c3_ (.ref b6_0) ∧ Fld Z h o0 c0_ "size" "I" (.int (1 : Int32)) ∧ Arv Z h b6_0 k6_1 (.object c1_) (10 : Int32) [(.ref o1)] .null ∧ Ovr Z k6_1 c1_ ∧ h0.size ≤ b6_0) := by
  refine own_body c0_ (plainFor_of_name pn_15) (fun m => ef_15 m o0 o1) fun p e s m below meth c s₁ X0 H hnm Bret Blk e0 => ?_
  obtain ⟨hx, hZ, hown, _, hby⟩ := id H
  have N0 := Fr.nil n0
  have K0 : Keep h0 h0 [o0] := Keep.refl h0 _
  have nx1 : o2 ≠ o0 := (Ne.symm (own_nev E_o0 (hV hw 48) V_o2))
  refine oG X0 H r15_0_1 2 #[rv o0, rv o1] [(.ref o0), (.ref o0)] ?_
  refine oGF X0 H (host := "") (Or.inl (hV hw 96)) (Via.of (hV hw 97)) e0 F_modCount_o0 d15_2 fun T1 X1 e1 => ?_
  refine oG X1 H r15_5_5 6 #[rv o0, rv o1] [(.int (1 : Int32)), (.int i0), (.ref o0)] ?_
  refine oB_ (tF_ T1 (mkF m 7 #[rv o0, rv o1] [(.int (i0 + (1 : Int32))), (.ref o0)])) (fun t k => ?_) ?_
  · refine XS.iadd X1.here hx rfl (hb hby d15_6) rfl ?_
    exact k
  refine own_c2 (putF X1 hx hZ hown (host := "") (Or.inl (hV hw 96)) (Via.of (hV hw 97)) e1 F_modCount_o0 E_o0 (Or.inl (hV hw 67)) (hV hw 48) (ty := .int) dE_ rfl rfl rfl rfl (hb hby d15_7)) fun T2 h2 X2 e2 W2 => ?_
  replace F_modCount_o0 := F_modCount_o0.same W2
  replace E_o0 := E_o0.wr W2
  replace F_elementData_o0 := F_elementData_o0.other W2 (Or.inr (sn2 hw))
  replace F_size_o0 := F_size_o0.other W2 (Or.inr (sn3 hw))
  replace OZ := OZ.wr W2 g_o0
  replace K0 := K0.wr W2 (Or.inl (List.mem_of_getElem? (i := 0) rfl))
  replace Z0 := Nat.le_trans Z0 (Keep.of_wr W2).1
  replace N0 := Fr.snoc X2 N0 g_o0
  refine oG X2 H r15_10_12 13 #[rv o0, rv o1] [(.ref o0), (.ref o1), (.ref o0)] ?_
  refine oGf X2 H (hV hw 69) e2 F_elementData_o0 d15_13 fun T3 X3 e3 => ?_
  refine oG X3 H r15_16_16 17 #[rv o0, rv o1] [(.ref o0), (.ref o2), (.ref o1), (.ref o0)] ?_
  refine oGf X3 H (hV hw 98) e3 F_size_o0 d15_17 fun T4 X4 e4 => ?_
  refine ocP X4 H (wb29_ hw) (rm16_61 hw Z0 g_o0 E_o0 F_modCount_o0 F_elementData_o0 F_size_o0 (E_o1.keep K0) (V_o2.keep K0 (ninS nx1 nin0)) S_DEFAULTCAPACITY_EMPTY_ELEMENTDATA OZ (by decide : ¬ ((10 : Int32) < (1 : Int32)))) e4 0 o0 E_o0 [(.ref o1), (.ref o2), oZ] [] pd_11 d15_20 fun T6 _ _ X6 hQ6 => ?_
  obtain ⟨b6_0, k6_1, rfl, N6, K6, E_o0', F_modCount_o0', F_elementData_o0', F_size_o0', V_b6_0', Ov_k6_1', sz_b6_0'⟩ := hQ6
  replace N0 := Fr.app N0 N6
  have sz_b6_0 := Nat.le_trans K0.1 sz_b6_0'
  replace K0 := K0.trans K6 (allS (Or.inl (List.mem_of_getElem? (i := 0) rfl)) all0)
  replace E_o0 := E_o0'
  have F_modCount_o0 := F_modCount_o0'
  have F_elementData_o0 := F_elementData_o0'
  have F_size_o0 := F_size_o0'
  have V_b6_0 := V_b6_0'
  have Ov_k6_1 := Ov_k6_1'
  refine oG X6 H r15_23_23 24 #[rv o0, rv o1] [(.int (1 : Int32))] ?_
  exact own_retN X6 Blk hx (t := .boolean) Bret (by simp) (hb hby d15_24) ⟨b6_0, k6_1, rfl, N0, K0, E_o0, F_modCount_o0, F_elementData_o0, F_size_o0, V_b6_0, Ov_k6_1, sz_b6_0⟩ dE_ dE_

theorem d21_27 : dC23_ 27 (.aload_n 3, 1) := by decide +kernel
theorem d21_28 : dC23_ 28 (.invokeinterface 28 1, 5) := by decide +kernel
theorem d21_33 : dC23_ 33 (.checkcast 32, 3) := by decide +kernel
theorem d21_36 : dC23_ 36 (.astore 4, 2) := by decide +kernel
theorem d21_38 : dC23_ 38 (.aload 4, 2) := by decide +kernel
theorem d21_40 : dC23_ 40 (.invokevirtual 34, 3) := by decide +kernel
theorem d21_43 : dC23_ 43 (.aload_n 1, 1) := by decide +kernel
theorem d21_44 : dC23_ 44 (.invokevirtual 38, 3) := by decide +kernel
theorem d21_47 : dC23_ 47 (.ifCond .eq 15, 3) := by decide +kernel
theorem d21_50 : dC23_ 50 (.aload_n 2, 1) := by decide +kernel
theorem d21_51 : dC23_ 51 (.aload 4, 2) := by decide +kernel
theorem d21_53 : dC23_ 53 (.invokevirtual 44, 3) := by decide +kernel
theorem d21_56 : dC23_ 56 (.invokeinterface 47 2, 5) := by decide +kernel
theorem d21_61 : dC23_ 61 (.pop, 1) := by decide +kernel
theorem d21_62 : dC23_ 62 (.goto (-44), 3) := by decide +kernel
theorem r21_27_27 : oDec prog_24_method_2_code [(27, .aload_n 3, 1)] := by decide +kernel
theorem r21_36_38 : oDec prog_24_method_2_code [(36, .astore 4, 2), (38, .aload 4, 2)] := by decide +kernel
theorem r21_43_43 : oDec prog_24_method_2_code [(43, .aload_n 1, 1)] := by decide +kernel
theorem r21_50_51 : oDec prog_24_method_2_code [(50, .aload_n 2, 1), (51, .aload 4, 2)] := by decide +kernel
theorem r21_62_18 : oDec prog_24_method_2_code [(62, .goto (-44), 3), (18, .aload_n 3, 1)] := by decide +kernel
theorem pd_20 : parseMethodDescriptor "()Ljava/lang/Object;" = some ⟨[], some (.object "java/lang/Object")⟩ := by decide +kernel
theorem pd_21 : parseMethodDescriptor "()Ljava/lang/String;" = some ⟨[], some (.object "java/lang/String")⟩ := by decide +kernel
theorem pd_10 : parseMethodDescriptor "(Ljava/lang/Object;)Z" = some ⟨[(.object "java/lang/Object")], some .boolean⟩ := by decide +kernel
set_option maxRecDepth 65536 in
set_option maxHeartbeats 40000000 in
theorem rm21_63 (hw : oW_ a0 Z) (Z0 : n0 ≤ h0.size) (F_members_o0 : Fld Z h0 o0 c7_ "members" c19_ (.ref o3)) (T_o1 : own_Str Z h0 o1 l0) (V_o2 : Arv Z h0 o2 k0 (.object c1_) (0 : Int32) [] .null) (E_o3 : Exa Z h0 o3 c0_) (F_modCount_o3 : Fld Z h0 o3 c4_ "modCount" "I" (.int i0)) (F_elementData_o3 : Fld Z h0 o3 c0_ "elementData" c3_ (.ref o4)) (F_size_o3 : Fld Z h0 o3 c0_ "size" "I" (.int i1)) (V_o4 : Arv Z h0 o4 k1 (.object c1_) (10 : Int32) [(.ref o5)] .null) (E_o5 : Exa Z h0 o5 c6_) (F_name_o5 : Fld Z h0 o5 c6_ "name" c9_ (.ref o6)) (F_value_o5 : Fld Z h0 o5 c6_ "value" c11_ (.ref o7)) (T_o6 : own_Str Z h0 o6 l1) (E_o7 : Exa Z h0 o7 c8_) (S_DEFAULTCAPACITY_EMPTY_ELEMENTDATA : Sta Z Z.heap c0_ c15_ c3_ (.ref o2)) (S_COMPACT_STRINGS : Sta Z Z.heap c2_ c13_ "Z" (.int i2)) (OZ : Old Z n0 h0) (hp0 : ¬ ((0 : Int32) = i1)) (hp1 : (0 : Int32) < i1) (hp2 : l1 = l0) (hp3 : ¬ (i2 = (0 : Int32))) (ne_o6_o1 : o6 ≠ o1) (hp4 : (1 : Int32) = i1) :
    oM l y13_ prog_24_method_2_code 5 (some (.object c12_)) ws (rM_ 5 3 17 69) #[(.ref o0), (.ref o1)] Z h0 (fun v h L => ∃ b1 : Addr, ∃ b19_0 : Addr, ∃ k19_1 : ClassId, v = some (.ref b1) ∧ Fr n0 L ∧ Keep h0 h [] ∧ Exa Z h b1 c0_ ∧ Fld Z h b1 c4_ "modCount" "I" (.int (1 : Int32)) ∧ Fld Z h b1 c0_ "elementData" c3_ (.ref b19_0) ∧ Fld Z h b1 c0_ "size" "I" (.int (1 : Int32)) ∧ Arv Z h b19_0 k19_1 (.object c1_) (10 : Int32) [(.ref o7)] .null ∧ Ovr Z k19_1 c1_ ∧ h0.size ≤ b1 ∧ h0.size ≤ b19_0 ∧ b1 ≠ b19_0) := by
  refine own_body c7_ (plainFor_of_name pn_21) (fun m => ef_21 m o0 o1) fun p e s m below meth c s₁ X0 H hnm Bret Blk e0 => ?_
  obtain ⟨hx, _, _, _, hby⟩ := id H
  have N0 := Fr.nil n0
  have K0 : Keep h0 h0 [] := Keep.refl h0 _
  refine oNw X0 H (hV hw 136) (hV hw 48) (hV hw 49) e0 d21_0 fun T1 h1 b1 X1 e1 E1 u1 E_b1 D1 => ?_
  have g_b1 := Nat.le_trans Z0 u1
  have sz_b1 := Nat.le_trans K0.1 u1
  replace OZ := OZ.ext E1
  replace K0 := K0.ext E1
  replace Z0 := Nat.le_trans Z0 E1.1
  have F_modCount_b1 : Fld Z h1 b1 c4_ "modCount" "I" oZ := D1 (Or.inl (hV hw 67)) (ty := .int) dE_
  have F_elementData_b1 : Fld Z h1 b1 c0_ "elementData" c3_ .null := D1 (Or.inl (hV hw 70)) (ty := (.array (.object c1_))) dE_
  have F_size_b1 : Fld Z h1 b1 c0_ "size" "I" oZ := D1 (Or.inl (hV hw 99)) (ty := .int) dE_
  refine oG X1 H r21_3_3 4 (lA12_ o0 o1) [(.ref b1), (.ref b1)] ?_
  refine ocI X1 H (wb19_ hw) (rm10_43 hw Z0 g_b1 E_b1 F_modCount_b1 F_elementData_b1 F_size_b1 S_DEFAULTCAPACITY_EMPTY_ELEMENTDATA OZ) e1 1 b1 [] [(.ref b1)] pd_3 d21_4 fun T3 _ _ X3 hQ3 => ?_
  obtain ⟨rfl, N3, K3, E_b1', F_modCount_b1', F_elementData_b1', F_size_b1'⟩ := hQ3
  replace N0 := Fr.app N0 N3
  replace OZ := OZ.keep K3 (allS g_b1 all0)
  replace K0 := K0.trans K3 (allS (Or.inr sz_b1) all0)
  replace Z0 := Nat.le_trans Z0 K3.1
  replace E_b1 := E_b1'
  have F_modCount_b1 := F_modCount_b1'
  have F_elementData_b1 := F_elementData_b1'
  have F_size_b1 := F_size_b1'
  refine oG X3 H r21_7_8 9 (lA13_ o0 o1 b1) [(.ref o0)] ?_
  refine oGf X3 H (hV hw 129) rfl (F_members_o0.keep K0 nin0) d21_9 fun T4 X4 e4 => ?_
  refine ocF X4 H (wb21_ hw) (rm22_47 hw Z0 (F_modCount_o3.keep K0 nin0)) e4 0 o3 (E_o3.keep K0) [] [] pd_17 d21_12 fun T6 _ _ X6 hQ6 => ?_
  obtain ⟨b6_0, rfl, N6, K6, E_b6_0', F_this_0_b6_0', F_lastRet_b6_0', F_expectedModCount_b6_0', F_cursor_b6_0', sz_b6_0'⟩ := hQ6
  replace N0 := Fr.app N0 N6
  have g_b6_0 := Nat.le_trans Z0 sz_b6_0'
  have sz_b6_0 := Nat.le_trans K0.1 sz_b6_0'
  have ne_b1_b6_0 := oNl E_b1.lt sz_b6_0'
  replace E_b1 := E_b1.keep K6
  replace F_modCount_b1 := F_modCount_b1.keep K6 nin0
  replace F_elementData_b1 := F_elementData_b1.keep K6 nin0
  replace F_size_b1 := F_size_b1.keep K6 nin0
  replace OZ := OZ.keep K6 all0
  replace K0 := K0.trans K6 all0
  replace Z0 := Nat.le_trans Z0 K6.1
  have E_b6_0 := E_b6_0'
  have F_this_0_b6_0 := F_this_0_b6_0'
  have F_lastRet_b6_0 := F_lastRet_b6_0'
  have F_expectedModCount_b6_0 := F_expectedModCount_b6_0'
  have F_cursor_b6_0 := F_cursor_b6_0'
  refine oG X6 H r21_17_18 19 (lA14_ o0 o1 b1 b6_0) [(.ref b6_0)] ?_
  refine ocF X6 H (wb22_ hw) (rm24_56 hw Z0 F_this_0_b6_0 F_cursor_b6_0 (F_size_o3.keep K0 nin0) hp0) (rfl : T6.heap = _) 0 b6_0 E_b6_0 [] [] pd_19 d21_19 fun T8 _ _ X8 hQ8 => ?_
  obtain ⟨rfl, N8, e8⟩ := hQ8
  replace N0 := Fr.app N0 N8
  refine oIN X8 H oD0 d21_24 (lA14_ o0 o1 b1 b6_0) [] rfl ((if0 _ _).trans (feq (by decide : ¬ ((1 : Int32) = (0 : Int32)))).1) ?_
  refine oH X8 H r21_27_27 28 [(.ref b6_0)] ?_
  refine ocF X8 H (wb32_ hw) (rm25_58 hw Z0 g_b6_0 E_b6_0 F_this_0_b6_0 F_lastRet_b6_0 F_expectedModCount_b6_0 F_cursor_b6_0 (F_modCount_o3.keep K0 nin0) (F_elementData_o3.keep K0 nin0) (F_size_o3.keep K0 nin0) (V_o4.keep K0 nin0) (oNl F_modCount_o3.lt sz_b6_0) hp1) e8 0 b6_0 E_b6_0 [] [] pd_20 d21_28 fun T10 _ _ X10 hQ10 => ?_
  obtain ⟨rfl, N10, K10, E_b6_0', F_this_0_b6_0', _, _, F_cursor_b6_0'⟩ := hQ10
  replace N0 := Fr.app N0 N10
  replace E_b1 := E_b1.keep K10
  replace F_modCount_b1 := F_modCount_b1.keep K10 (ninS ne_b1_b6_0 nin0)
  replace F_elementData_b1 := F_elementData_b1.keep K10 (ninS ne_b1_b6_0 nin0)
  replace F_size_b1 := F_size_b1.keep K10 (ninS ne_b1_b6_0 nin0)
  replace OZ := OZ.keep K10 (allS g_b6_0 all0)
  replace K0 := K0.trans K10 (allS (Or.inr sz_b6_0) all0)
  replace Z0 := Nat.le_trans Z0 K10.1
  replace E_b6_0 := E_b6_0'
  have F_this_0_b6_0 := F_this_0_b6_0'
  have F_cursor_b6_0 := F_cursor_b6_0'
  refine oKst X10 H (hV hw 187) rfl (Ins.self (E_o5.keep K0)) d21_33 fun T11 X11 e11 => ?_
  refine oG X11 H r21_36_38 40 (lA15_ o0 o1 b1 b6_0 o5) [(.ref o5)] ?_
  refine ocV X11 H (wb33_ hw) (rm27_59 hw Z0 (F_name_o5.keep K0 nin0)) e11 0 o5 (E_o5.keep K0) [] [] pd_21 d21_40 fun T13 _ _ X13 hQ13 => ?_
  obtain ⟨rfl, N13, e13⟩ := hQ13
  replace N0 := Fr.app N0 N13
  refine oG X13 H r21_43_43 44 (lA15_ o0 o1 b1 b6_0 o5) [(.ref o1), (.ref o6)] ?_
  refine ocV X13 H (wb34_ hw) (rm28_eq hw Z0 OZ S_COMPACT_STRINGS hp3 (T_o6.keep K0) (T_o1.keep K0) ne_o6_o1 hp2) e13 0 o6 (own_Str.exa (T_o6.keep K0)) [(.ref o1)] [] pd_10 d21_44 fun T15 _ _ X15 hQ15 => ?_
  obtain ⟨rfl, N15, e15⟩ := hQ15
  replace N0 := Fr.app N0 N15
  refine oIN X15 H oD0 d21_47 (lA15_ o0 o1 b1 b6_0 o5) [] rfl ((if0 _ _).trans (feq (by decide : ¬ ((1 : Int32) = (0 : Int32)))).1) ?_
  refine oH X15 H r21_50_51 53 [(.ref o5), (.ref b1)] ?_
  refine ocV X15 H (wb35_ hw) (rm31_60 hw Z0 (F_value_o5.keep K0 nin0)) e15 1 o5 (E_o5.keep K0) [] [(.ref b1)] pd_20 d21_53 fun T17 _ _ X17 hQ17 => ?_
  obtain ⟨rfl, N17, e17⟩ := hQ17
  replace N0 := Fr.app N0 N17
  refine ocF X17 H (wb36_ hw) (rm15_62 hw Z0 g_b1 E_b1 F_modCount_b1 F_elementData_b1 F_size_b1 (E_o7.keep K0) (V_o2.keep K0 nin0) S_DEFAULTCAPACITY_EMPTY_ELEMENTDATA OZ) e17 0 b1 E_b1 [(.ref o7)] [] pd_10 d21_56 fun T19 _ _ X19 hQ19 => ?_
  obtain ⟨b19_0, k19_1, rfl, N19, K19, E_b1', F_modCount_b1', F_elementData_b1', F_size_b1', V_b19_0', Ov_k19_1', sz_b19_0'⟩ := hQ19
  replace N0 := Fr.app N0 N19
  have sz_b19_0 := Nat.le_trans K0.1 sz_b19_0'
  have ne_b1_b19_0 := oNl E_b1.lt sz_b19_0'
  replace E_b6_0 := E_b6_0.keep K19
  replace F_this_0_b6_0 := F_this_0_b6_0.keep K19 (ninS (Ne.symm ne_b1_b6_0) nin0)
  replace F_cursor_b6_0 := F_cursor_b6_0.keep K19 (ninS (Ne.symm ne_b1_b6_0) nin0)
  replace K0 := K0.trans K19 (allS (Or.inr sz_b1) all0)
  replace Z0 := Nat.le_trans Z0 K19.1
  replace E_b1 := E_b1'
  have F_modCount_b1 : Fld Z T19.heap b1 c4_ "modCount" "I" (.int (1 : Int32)) := F_modCount_b1'
  have F_elementData_b1 := F_elementData_b1'
  have F_size_b1 := F_size_b1'
  have V_b19_0 := V_b19_0'
  have Ov_k19_1 := Ov_k19_1'
  refine oB_ (tF_ T19 (mkF m 62 (lA15_ o0 o1 b1 b6_0 o5) [])) (fun t k => ?_) ?_
  · refine XS.pop X19.here hx rfl (hb hby d21_61) rfl rfl ?_
    exact k
  refine oH X19 H r21_62_18 19 [(.ref b6_0)] ?_
  refine ocF X19 H (wb22_ hw) (rm24_48 hw Z0 F_this_0_b6_0 F_cursor_b6_0 (F_size_o3.keep K0 nin0) hp4) (rfl : T19.heap = _) 0 b6_0 E_b6_0 [] [] pd_19 d21_19 fun T21 _ _ X21 hQ21 => ?_
  obtain ⟨rfl, N21, e21⟩ := hQ21
  replace N0 := Fr.app N0 N21
  refine oIY X21 H oD0 d21_24 65 (lA15_ o0 o1 b1 b6_0 o5) [] rfl ((if0 _ _).trans (teq (by decide : (0 : Int32) = (0 : Int32))).1) ?_
  refine oH X21 H r21_65_65 66 [(.ref b1)] ?_
  exact own_retR X21 Blk hx Bret rfl rfl rfl (hb hby d21_66) (by
      try rw [show T21.heap = T19.heap from e21]
      exact ⟨b1, b19_0, k19_1, rfl, N0, K0, E_b1, F_modCount_b1, F_elementData_b1, F_size_b1, V_b19_0, Ov_k19_1, sz_b1, sz_b19_0, ne_b1_b19_0⟩) dE_ dE_

set_option maxRecDepth 65536 in
set_option maxHeartbeats 40000000 in
theorem rm21_64 (hw : oW_ a0 Z) (Z0 : n0 ≤ h0.size) (F_members_o0 : Fld Z h0 o0 c7_ "members" c19_ (.ref o3)) (T_o1 : own_Str Z h0 o1 l0) (E_o3 : Exa Z h0 o3 c0_) (F_modCount_o3 : Fld Z h0 o3 c4_ "modCount" "I" (.int i0)) (F_elementData_o3 : Fld Z h0 o3 c0_ "elementData" c3_ (.ref o4)) (F_size_o3 : Fld Z h0 o3 c0_ "size" "I" (.int i1)) (V_o4 : Arv Z h0 o4 k1 (.object c1_) (10 : Int32) [(.ref o5)] .null) (E_o5 : Exa Z h0 o5 c6_) (F_name_o5 : Fld Z h0 o5 c6_ "name" c9_ (.ref o6)) (T_o6 : own_Str Z h0 o6 l1) (S_DEFAULTCAPACITY_EMPTY_ELEMENTDATA : Sta Z Z.heap c0_ c15_ c3_ (.ref o2)) (S_COMPACT_STRINGS : Sta Z Z.heap c2_ c13_ "Z" (.int i2)) (OZ : Old Z n0 h0) (hp0 : ¬ ((0 : Int32) = i1)) (hp1 : (0 : Int32) < i1) (hp2 : ¬ (l1 = l0)) (hp3 : ¬ (i2 = (0 : Int32))) (ne_o6_o1 : o6 ≠ o1) (hp4 : (1 : Int32) = i1) :
    oM l y13_ prog_24_method_2_code 5 (some (.object c12_)) ws (rM_ 4 2 7 49) #[(.ref o0), (.ref o1)] Z h0 (fun v h L => ∃ b1 : Addr, v = some (.ref b1) ∧ Fr n0 L ∧ Keep h0 h [] ∧ Exa Z h b1 c0_ ∧ Fld Z h b1 c4_ "modCount" "I" oZ ∧ Fld Z h b1 c0_ "elementData" c3_ (.ref o2) ∧ Fld Z h b1 c0_ "size" "I" oZ ∧ h0.size ≤ b1) := by
  refine own_body c7_ (plainFor_of_name pn_21) (fun m => ef_21 m o0 o1) fun p e s m below meth c s₁ X0 H hnm Bret Blk e0 => ?_
  obtain ⟨hx, _, _, _, hby⟩ := id H
  have N0 := Fr.nil n0
  have K0 : Keep h0 h0 [] := Keep.refl h0 _
  refine oNw X0 H (hV hw 136) (hV hw 48) (hV hw 49) e0 d21_0 fun T1 h1 b1 X1 e1 E1 u1 E_b1 D1 => ?_
  have g_b1 := Nat.le_trans Z0 u1
  have sz_b1 := Nat.le_trans K0.1 u1
  replace OZ := OZ.ext E1
  replace K0 := K0.ext E1
  replace Z0 := Nat.le_trans Z0 E1.1
  have F_modCount_b1 : Fld Z h1 b1 c4_ "modCount" "I" oZ := D1 (Or.inl (hV hw 67)) (ty := .int) dE_
  have F_elementData_b1 : Fld Z h1 b1 c0_ "elementData" c3_ .null := D1 (Or.inl (hV hw 70)) (ty := (.array (.object c1_))) dE_
  have F_size_b1 : Fld Z h1 b1 c0_ "size" "I" oZ := D1 (Or.inl (hV hw 99)) (ty := .int) dE_
  refine oG X1 H r21_3_3 4 (lA12_ o0 o1) [(.ref b1), (.ref b1)] ?_
  refine ocI X1 H (wb19_ hw) (rm10_43 hw Z0 g_b1 E_b1 F_modCount_b1 F_elementData_b1 F_size_b1 S_DEFAULTCAPACITY_EMPTY_ELEMENTDATA OZ) e1 1 b1 [] [(.ref b1)] pd_3 d21_4 fun T3 _ _ X3 hQ3 => ?_
  obtain ⟨rfl, N3, K3, E_b1', F_modCount_b1', F_elementData_b1', F_size_b1'⟩ := hQ3
  replace N0 := Fr.app N0 N3
  replace OZ := OZ.keep K3 (allS g_b1 all0)
  replace K0 := K0.trans K3 (allS (Or.inr sz_b1) all0)
  replace Z0 := Nat.le_trans Z0 K3.1
  replace E_b1 := E_b1'
  have F_modCount_b1 := F_modCount_b1'
  have F_elementData_b1 := F_elementData_b1'
  have F_size_b1 := F_size_b1'
  refine oG X3 H r21_7_8 9 (lA13_ o0 o1 b1) [(.ref o0)] ?_
  refine oGf X3 H (hV hw 129) rfl (F_members_o0.keep K0 nin0) d21_9 fun T4 X4 e4 => ?_
  refine ocF X4 H (wb21_ hw) (rm22_47 hw Z0 (F_modCount_o3.keep K0 nin0)) e4 0 o3 (E_o3.keep K0) [] [] pd_17 d21_12 fun T6 _ _ X6 hQ6 => ?_
  obtain ⟨b6_0, rfl, N6, K6, E_b6_0', F_this_0_b6_0', F_lastRet_b6_0', F_expectedModCount_b6_0', F_cursor_b6_0', sz_b6_0'⟩ := hQ6
  replace N0 := Fr.app N0 N6
  have g_b6_0 := Nat.le_trans Z0 sz_b6_0'
  have sz_b6_0 := Nat.le_trans K0.1 sz_b6_0'
  have ne_b1_b6_0 := oNl E_b1.lt sz_b6_0'
  replace E_b1 := E_b1.keep K6
  replace F_modCount_b1 := F_modCount_b1.keep K6 nin0
  replace F_elementData_b1 := F_elementData_b1.keep K6 nin0
  replace F_size_b1 := F_size_b1.keep K6 nin0
  replace OZ := OZ.keep K6 all0
  replace K0 := K0.trans K6 all0
  replace Z0 := Nat.le_trans Z0 K6.1
  have E_b6_0 := E_b6_0'
  have F_this_0_b6_0 := F_this_0_b6_0'
  have F_lastRet_b6_0 := F_lastRet_b6_0'
  have F_expectedModCount_b6_0 := F_expectedModCount_b6_0'
  have F_cursor_b6_0 := F_cursor_b6_0'
  refine oG X6 H r21_17_18 19 (lA14_ o0 o1 b1 b6_0) [(.ref b6_0)] ?_
  refine ocF X6 H (wb22_ hw) (rm24_56 hw Z0 F_this_0_b6_0 F_cursor_b6_0 (F_size_o3.keep K0 nin0) hp0) (rfl : T6.heap = _) 0 b6_0 E_b6_0 [] [] pd_19 d21_19 fun T8 _ _ X8 hQ8 => ?_
  obtain ⟨rfl, N8, e8⟩ := hQ8
  replace N0 := Fr.app N0 N8
  refine oIN X8 H oD0 d21_24 (lA14_ o0 o1 b1 b6_0) [] rfl ((if0 _ _).trans (feq (by decide : ¬ ((1 : Int32) = (0 : Int32)))).1) ?_
  refine oH X8 H r21_27_27 28 [(.ref b6_0)] ?_
  refine ocF X8 H (wb32_ hw) (rm25_58 hw Z0 g_b6_0 E_b6_0 F_this_0_b6_0 F_lastRet_b6_0 F_expectedModCount_b6_0 F_cursor_b6_0 (F_modCount_o3.keep K0 nin0) (F_elementData_o3.keep K0 nin0) (F_size_o3.keep K0 nin0) (V_o4.keep K0 nin0) (oNl F_modCount_o3.lt sz_b6_0) hp1) e8 0 b6_0 E_b6_0 [] [] pd_20 d21_28 fun T10 _ _ X10 hQ10 => ?_
  obtain ⟨rfl, N10, K10, E_b6_0', F_this_0_b6_0', _, _, F_cursor_b6_0'⟩ := hQ10
  replace N0 := Fr.app N0 N10
  replace E_b1 := E_b1.keep K10
  replace F_modCount_b1 := F_modCount_b1.keep K10 (ninS ne_b1_b6_0 nin0)
  replace F_elementData_b1 := F_elementData_b1.keep K10 (ninS ne_b1_b6_0 nin0)
  replace F_size_b1 := F_size_b1.keep K10 (ninS ne_b1_b6_0 nin0)
  replace OZ := OZ.keep K10 (allS g_b6_0 all0)
  replace K0 := K0.trans K10 (allS (Or.inr sz_b6_0) all0)
  replace Z0 := Nat.le_trans Z0 K10.1
  replace E_b6_0 := E_b6_0'
  have F_this_0_b6_0 := F_this_0_b6_0'
  have F_cursor_b6_0 := F_cursor_b6_0'
  refine oKst X10 H (hV hw 187) rfl (Ins.self (E_o5.keep K0)) d21_33 fun T11 X11 e11 => ?_
  refine oG X11 H r21_36_38 40 (lA15_ o0 o1 b1 b6_0 o5) [(.ref o5)] ?_
  refine ocV X11 H (wb33_ hw) (rm27_59 hw Z0 (F_name_o5.keep K0 nin0)) e11 0 o5 (E_o5.keep K0) [] [] pd_21 d21_40 fun T13 _ _ X13 hQ13 => ?_
  obtain ⟨rfl, N13, e13⟩ := hQ13
  replace N0 := Fr.app N0 N13
  refine oG X13 H r21_43_43 44 (lA15_ o0 o1 b1 b6_0 o5) [(.ref o1), (.ref o6)] ?_
  refine ocV X13 H (wb34_ hw) (rm28_ne hw Z0 OZ S_COMPACT_STRINGS hp3 (T_o6.keep K0) (T_o1.keep K0) ne_o6_o1 hp2) e13 0 o6 (own_Str.exa (T_o6.keep K0)) [(.ref o1)] [] pd_10 d21_44 fun T15 _ _ X15 hQ15 => ?_
  obtain ⟨rfl, N15, e15⟩ := hQ15
  replace N0 := Fr.app N0 N15
  refine oIY X15 H oD0 d21_47 62 (lA15_ o0 o1 b1 b6_0 o5) [] rfl ((if0 _ _).trans (teq (by decide : (0 : Int32) = (0 : Int32))).1) ?_
  refine oH X15 H r21_62_18 19 [(.ref b6_0)] ?_
  refine ocF X15 H (wb22_ hw) (rm24_48 hw Z0 F_this_0_b6_0 F_cursor_b6_0 (F_size_o3.keep K0 nin0) hp4) e15 0 b6_0 E_b6_0 [] [] pd_19 d21_19 fun T17 _ _ X17 hQ17 => ?_
  obtain ⟨rfl, N17, e17⟩ := hQ17
  replace N0 := Fr.app N0 N17
  refine oIY X17 H oD0 d21_24 65 (lA15_ o0 o1 b1 b6_0 o5) [] rfl ((if0 _ _).trans (teq (by decide : (0 : Int32) = (0 : Int32))).1) ?_
  refine oH X17 H r21_65_65 66 [(.ref b1)] ?_
  exact own_retR X17 Blk hx Bret rfl rfl rfl (hb hby d21_66) (by
      try rw [show T17.heap = T10.heap from e17]
      exact ⟨b1, rfl, N0, K0, E_b1, F_modCount_b1, F_elementData_b1, F_size_b1, sz_b1⟩) dE_ dE_

theorem r16_11_13 : oDec jdk_38_method_24_code [(11, .aload_n 2, 1), (12, .iload_n 3, 1), (13, .aload_n 1, 1)] := by decide +kernel
set_option maxRecDepth 65536 in
set_option maxHeartbeats 40000000 in
theorem rm16_65 (hw : oW_ a0 Z) (Z0 : n0 ≤ h0.size) (g_o0 : n0 ≤ o0) (E_o0 : Exa Z h0 o0 c0_) (F_modCount_o0 : Fld Z h0 o0 c4_ "modCount" "I" (.int i0)) (F_elementData_o0 : Fld Z h0 o0 c0_ "elementData" c3_ (.ref o2)) (F_size_o0 : Fld Z h0 o0 c0_ "size" "I" (.int i1)) (E_o1 : Exa Z h0 o1 c6_) (g_o2 : n0 ≤ o2) (V_o2 : Arv Z h0 o2 k0 (.object c1_) (10 : Int32) [(.ref o6)] .null) (Ov_k0 : Ovr Z k0 c1_) :
    oM l y14_ jdk_38_method_24_code 4 none ws (rM_ 0 0 0 0) #[(.ref o0), (.ref o1), (.ref o2), (.int (1 : Int32))] Z h0 (fun v h L => v = none ∧ Fr n0 L ∧ Keep h0 h [o2, o0] ∧ Arv Z h o2 k0 (.object c1_) (10 : Int32) [(.ref o6), (.ref o1)] .null ∧ Exa Z h o0 c0_ ∧ Fld Z h o0 c4_ "modCount" "I" (.int i0) ∧ Fld Z h o0 c0_ "elementData" c3_ (.ref o2) ∧ Fld Z h o0 c0_ "size" "I" (.int (2 : Int32))) := by
  refine own_body c0_ (plainFor_of_name pn_16) (fun m => ef_16 m o0 o1 o2 (1 : Int32)) fun p e s m below meth c s₁ X0 H hnm Bret Blk e0 => ?_
  obtain ⟨hx, hZ, hown, _, hby⟩ := id H
  have N0 := Fr.nil n0
  have K0 : Keep h0 h0 [o2, o0] := Keep.refl h0 _
  refine oG X0 H r16_0_1 2 #[rv o0, rv o1, rv o2, iv (1 : Int32)] [(.ref o2), (.int (1 : Int32))] ?_
  refine oLen X0 H e0 V_o2 d16_2 ?_
  refine oCY X0 H oD0 d16_3 11 #[rv o0, rv o1, rv o2, iv (1 : Int32)] [] rfl (feq (by decide : ¬ ((1 : Int32) = (10 : Int32)))).2 ?_
  refine oH X0 H r16_11_13 14 [(.ref o1), (.int (1 : Int32)), (.ref o2)] ?_
  replace V_o2 : Arv Z h0 o2 k0 (.object c1_) (10 : Int32) [(.ref o6), .null] .null := V_o2.pad (pad_rep [(.ref o6)] .null 1)
  have nx1 : o0 ≠ o2 := (own_nev E_o0 (hV hw 48) V_o2)
  obtain ⟨cl1, Ar1, q1, S1, N1, H1, G1⟩ := id V_o2
  have hin1 : ¬ ((1 : Int32) < 0 ∨ cl1.slots.size ≤ ((1 : Int32)).toNatClampNeg) := inb_of S1 ⟨by decide, by decide⟩
  refine own_c2 (stR X0 hx hZ e0 Ar1 (j := (1 : Int32)) hin1 rfl (Sto.ofV Ar1 q1 Ov_k0 (Ins.of_exa E_o1 (hV hw 121))) rfl rfl (hb hby d16_14)) fun T1 h1 X1 e1 W1 => ?_
  replace V_o2 : Arv Z h1 o2 k0 (.object c1_) (10 : Int32) [(.ref o6), (.ref o1)] .null := Arv.set Ar1 q1 S1 N1 H1 G1 rfl W1 1 rfl nB_
  replace E_o0 := E_o0.wr W1
  replace F_modCount_o0 := F_modCount_o0.other W1 (Or.inl nx1)
  replace F_elementData_o0 := F_elementData_o0.other W1 (Or.inl nx1)
  replace F_size_o0 := F_size_o0.other W1 (Or.inl nx1)
  replace K0 := K0.wr W1 (Or.inl (List.mem_of_getElem? (i := 0) rfl))
  replace N0 := Fr.snoc X1 N0 g_o2
  refine oG X1 H r16_15_17 18 #[rv o0, rv o1, rv o2, iv (1 : Int32)] [(.int (1 : Int32)), (.int (1 : Int32)), (.ref o0)] ?_
  refine oB_ (tF_ T1 (mkF m 19 #[rv o0, rv o1, rv o2, iv (1 : Int32)] [(.int (2 : Int32)), (.ref o0)])) (fun t k => ?_) ?_
  · refine XS.iadd X1.here hx rfl (hb hby d16_18) rfl ?_
    exact k
  refine own_c2 (putF X1 hx hZ hown (host := "") (Or.inl (hV hw 98)) Via.refl e1 F_size_o0 E_o0 (Or.inl (hV hw 99)) (hV hw 48) (ty := .int) dE_ rfl rfl rfl rfl (hb hby d16_19)) fun T2 h2 X2 e2 W2 => ?_
  replace F_size_o0 := F_size_o0.same W2
  replace E_o0 := E_o0.wr W2
  replace F_modCount_o0 := F_modCount_o0.other W2 (Or.inr (sn17 hw))
  replace F_elementData_o0 := F_elementData_o0.other W2 (Or.inr (sn18 hw))
  replace V_o2 := V_o2.other W2 (Ne.symm nx1)
  replace K0 := K0.wr W2 (Or.inl (List.mem_of_getElem? (i := 1) rfl))
  replace N0 := Fr.snoc X2 N0 g_o0
  show own_Go p e below _ (T2.setTop (mkF m 22 #[rv o0, rv o1, rv o2, iv (1 : Int32)] []))
  exact own_retV X2 Blk hx Bret (hb hby d16_22) (by
      try rw [show T2.heap = h2 from e2]
      exact ⟨rfl, N0, K0, V_o2, E_o0, F_modCount_o0, F_elementData_o0, F_size_o0⟩) dE_ dE_

set_option maxRecDepth 65536 in
set_option maxHeartbeats 40000000 in
theorem rm15_66 (hw : oW_ a0 Z) (Z0 : n0 ≤ h0.size) (g_o0 : n0 ≤ o0) (E_o0 : Exa Z h0 o0 c0_) (F_modCount_o0 : Fld Z h0 o0 c4_ "modCount" "I" (.int i0)) (F_elementData_o0 : Fld Z h0 o0 c0_ "elementData" c3_ (.ref o3)) (F_size_o0 : Fld Z h0 o0 c0_ "size" "I" (.int (1 : Int32))) (E_o1 : Exa Z h0 o1 c6_) (g_o3 : n0 ≤ o3) (V_o3 : Arv Z h0 o3 k1 (.object c1_) (10 : Int32) [(.ref o6)] .null) (Ov_k1 : Ovr Z k1 c1_) :
    oM l y15_ jdk_38_method_25_code 2 (some .boolean) ws (rM_ 1 0 0 15) #[(.ref o0), (.ref o1)] Z h0 (fun v h L => v = some (.int (1 : Int32)) ∧ Fr n0 L ∧ Keep h0 h [o0, o3] ∧ Exa Z h o0 c0_ ∧ Fld Z h o0 c4_ "modCount" "I" (.int (i0 + (1 : Int32))) ∧ Fld Z h o0 c0_ "elementData" c3_ (.ref o3) ∧ Fld Z h o0 c0_ "size" "I" (.int (2 : Int32)) ∧ Arv Z h o3 k1 (.object c1_) (10 : Int32) [(.ref o6), (.ref o1)] .null) := by
  refine own_body c0_ (plainFor_of_name pn_15) (fun m => ef_15 m o0 o1) fun p e s m below meth c s₁ X0 H hnm Bret Blk e0 => ?_
  obtain ⟨hx, hZ, hown, _, hby⟩ := id H
  have N0 := Fr.nil n0
  have K0 : Keep h0 h0 [o0, o3] := Keep.refl h0 _
  refine oG X0 H r15_0_1 2 #[rv o0, rv o1] [(.ref o0), (.ref o0)] ?_
  refine oGF X0 H (host := "") (Or.inl (hV hw 96)) (Via.of (hV hw 97)) e0 F_modCount_o0 d15_2 fun T1 X1 e1 => ?_
  refine oG X1 H r15_5_5 6 #[rv o0, rv o1] [(.int (1 : Int32)), (.int i0), (.ref o0)] ?_
  refine oB_ (tF_ T1 (mkF m 7 #[rv o0, rv o1] [(.int (i0 + (1 : Int32))), (.ref o0)])) (fun t k => ?_) ?_
  · refine XS.iadd X1.here hx rfl (hb hby d15_6) rfl ?_
    exact k
  refine own_c2 (putF X1 hx hZ hown (host := "") (Or.inl (hV hw 96)) (Via.of (hV hw 97)) e1 F_modCount_o0 E_o0 (Or.inl (hV hw 67)) (hV hw 48) (ty := .int) dE_ rfl rfl rfl rfl (hb hby d15_7)) fun T2 h2 X2 e2 W2 => ?_
  replace F_modCount_o0 := F_modCount_o0.same W2
  have nx1 : o3 ≠ o0 := (Ne.symm (own_nev E_o0 (hV hw 48) V_o3))
  replace E_o0 := E_o0.wr W2
  replace F_elementData_o0 := F_elementData_o0.other W2 (Or.inr (sn2 hw))
  replace F_size_o0 := F_size_o0.other W2 (Or.inr (sn3 hw))
  replace V_o3 := V_o3.other W2 nx1
  replace K0 := K0.wr W2 (Or.inl (List.mem_of_getElem? (i := 0) rfl))
  replace Z0 := Nat.le_trans Z0 (Keep.of_wr W2).1
  replace N0 := Fr.snoc X2 N0 g_o0
  refine oG X2 H r15_10_12 13 #[rv o0, rv o1] [(.ref o0), (.ref o1), (.ref o0)] ?_
  refine oGf X2 H (hV hw 69) e2 F_elementData_o0 d15_13 fun T3 X3 e3 => ?_
  refine oG X3 H r15_16_16 17 #[rv o0, rv o1] [(.ref o0), (.ref o3), (.ref o1), (.ref o0)] ?_
  refine oGf X3 H (hV hw 98) e3 F_size_o0 d15_17 fun T4 X4 e4 => ?_
  refine ocP X4 H (wb29_ hw) (rm16_65 hw Z0 g_o0 E_o0 F_modCount_o0 F_elementData_o0 F_size_o0 (E_o1.keep K0) g_o3 V_o3 Ov_k1) e4 0 o0 E_o0 [(.ref o1), (.ref o3), (.int (1 : Int32))] [] pd_11 d15_20 fun T6 _ _ X6 hQ6 => ?_
  obtain ⟨rfl, N6, K6, V_o3', E_o0', F_modCount_o0', F_elementData_o0', F_size_o0'⟩ := hQ6
  replace N0 := Fr.app N0 N6
  replace K0 := K0.trans K6 (allS (Or.inl (List.mem_of_getElem? (i := 1) rfl)) (allS (Or.inl (List.mem_of_getElem? (i := 0) rfl)) all0))
  have V_o3 := V_o3'
  replace E_o0 := E_o0'
  have F_modCount_o0 := F_modCount_o0'
  have F_elementData_o0 := F_elementData_o0'
  have F_size_o0 := F_size_o0'
  refine oG X6 H r15_23_23 24 #[rv o0, rv o1] [(.int (1 : Int32))] ?_
  exact own_retN X6 Blk hx (t := .boolean) Bret (by simp) (hb hby d15_24) ⟨rfl, N0, K0, E_o0, F_modCount_o0, F_elementData_o0, F_size_o0, V_o3⟩ dE_ dE_

set_option maxRecDepth 65536 in
set_option maxHeartbeats 40000000 in
theorem rm25_67 (hw : oW_ a0 Z) (Z0 : n0 ≤ h0.size) (g_o0 : n0 ≤ o0) (E_o0 : Exa Z h0 o0 c5_) (F_this_0_o0 : Fld Z h0 o0 c5_ "this$0" c14_ (.ref o2)) (F_lastRet_o0 : Fld Z h0 o0 c5_ "lastRet" "I" (.int i0)) (F_expectedModCount_o0 : Fld Z h0 o0 c5_ c17_ "I" (.int i1)) (F_cursor_o0 : Fld Z h0 o0 c5_ "cursor" "I" oZ) (F_modCount_o2 : Fld Z h0 o2 c4_ "modCount" "I" (.int i1)) (F_elementData_o2 : Fld Z h0 o2 c0_ "elementData" c3_ (.ref o3)) (F_size_o2 : Fld Z h0 o2 c0_ "size" "I" (.int i2)) (V_o3 : Arv Z h0 o3 k1 (.object c1_) (10 : Int32) [(.ref o4), (.ref o5)] .null) (ne_o2_o0 : o2 ≠ o0) (hp0 : (0 : Int32) < i2) :
    oM l y16_ jdk_49_method_3_code 3 (some (.object c1_)) ws (rM_ 1 0 0 12) #[(.ref o0)] Z h0 (fun v h L => v = some (.ref o4) ∧ Fr n0 L ∧ Keep h0 h [o0] ∧ Exa Z h o0 c5_ ∧ Fld Z h o0 c5_ "this$0" c14_ (.ref o2) ∧ Fld Z h o0 c5_ "lastRet" "I" oZ ∧ Fld Z h o0 c5_ c17_ "I" (.int i1) ∧ Fld Z h o0 c5_ "cursor" "I" (.int (1 : Int32))) := by
  refine own_body c5_ (plainFor_of_name pn_25) (fun m => ef_25 m o0) fun p e s m below meth c s₁ X0 H hnm Bret Blk e0 => ?_
  obtain ⟨hx, hZ, hown, _, hby⟩ := id H
  have N0 := Fr.nil n0
  have K0 : Keep h0 h0 [o0] := Keep.refl h0 _
  have nx1 : o3 ≠ o0 := (Ne.symm (own_nev E_o0 (hV hw 147) V_o3))
  refine oG X0 H r25_0_0 1 #[rv o0, oU, oU] [(.ref o0)] ?_
  refine ocV X0 H (wb31_ hw) (rm26_57 hw Z0 F_this_0_o0 F_expectedModCount_o0 F_modCount_o2) e0 0 o0 E_o0 [] [] pd_3 d25_1 fun T2 _ _ X2 hQ2 => ?_
  obtain ⟨rfl, N2, e2⟩ := hQ2
  replace N0 := Fr.app N0 N2
  refine oG X2 H r25_4_4 5 #[rv o0, oU, oU] [(.ref o0)] ?_
  refine oGf X2 H (hV hw 170) e2 F_cursor_o0 d25_5 fun T3 X3 e3 => ?_
  refine oG X3 H r25_8_10 11 #[rv o0, iv (0 : Int32), oU] [(.ref o0), oZ] ?_
  refine oGf X3 H (hV hw 153) e3 F_this_0_o0 d25_11 fun T4 X4 e4 => ?_
  refine oGF X4 H (Or.inr (hV hw 172)) Via.refl e4 F_size_o2 d25_14 fun T5 X5 e5 => ?_
  refine oCY X5 H oD0 d25_17 28 #[rv o0, iv (0 : Int32), oU] [] rfl (tlt hp0).1 ?_
  refine oH X5 H r25_28_28 29 [(.ref o0)] ?_
  refine oGf X5 H (hV hw 153) e5 F_this_0_o0 d25_29 fun T6 X6 e6 => ?_
  refine oGf X6 H (hV hw 186) e6 F_elementData_o2 d25_32 fun T7 X7 e7 => ?_
  refine oG X7 H r25_35_37 38 #[rv o0, iv (0 : Int32), rv o3] [(.ref o3), oZ] ?_
  refine oLen X7 H e7 V_o3 d25_38 ?_
  refine oCY X7 H oD0 d25_39 50 #[rv o0, iv (0 : Int32), rv o3] [] rfl (tlt (by decide : (0 : Int32) < (10 : Int32))).1 ?_
  refine oH X7 H r25_50_52 53 [(.int (1 : Int32)), oZ, (.ref o0)] ?_
  refine oB_ (tF_ T7 (mkF m 54 #[rv o0, iv (0 : Int32), rv o3] [(.int (1 : Int32)), (.ref o0)])) (fun t k => ?_) ?_
  · refine XS.iadd X7.here hx rfl (hb hby d25_53) rfl ?_
    exact k
  refine own_c2 (putF X7 hx hZ hown (host := "") (Or.inl (hV hw 170)) Via.refl e7 F_cursor_o0 E_o0 (Or.inl (hV hw 171)) (hV hw 147) (ty := .int) dE_ rfl rfl rfl rfl (hb hby d25_54)) fun T8 h8 X8 e8 W8 => ?_
  replace F_cursor_o0 := F_cursor_o0.same W8
  replace E_o0 := E_o0.wr W8
  replace F_this_0_o0 := F_this_0_o0.other W8 (Or.inr (sn19 hw))
  replace F_lastRet_o0 := F_lastRet_o0.other W8 (Or.inr (sn20 hw))
  replace F_expectedModCount_o0 := F_expectedModCount_o0.other W8 (Or.inr (sn21 hw))
  replace K0 := K0.wr W8 (Or.inl (List.mem_of_getElem? (i := 0) rfl))
  replace N0 := Fr.snoc X8 N0 g_o0
  refine oG X8 H r25_57_59 60 #[rv o0, iv (0 : Int32), rv o3] [oZ, (.ref o0), (.ref o3)] ?_
  refine oB_ (tF_ T8 (mkF m 61 #[rv o0, iv (0 : Int32), rv o3] [oZ, (.ref o0), oZ, (.ref o3)])) (fun t k => ?_) ?_
  · refine XS.dupX1 X8.here hx rfl (hb hby d25_60) rfl rfl rfl ?_
    exact k
  refine own_c2 (putF X8 hx hZ hown (host := "") (Or.inl (hV hw 156)) Via.refl e8 F_lastRet_o0 E_o0 (Or.inl (hV hw 157)) (hV hw 147) (ty := .int) dE_ rfl rfl rfl rfl (hb hby d25_61)) fun T9 h9 X9 e9 W9 => ?_
  replace F_lastRet_o0 := F_lastRet_o0.same W9
  replace E_o0 := E_o0.wr W9
  replace F_this_0_o0 := F_this_0_o0.other W9 (Or.inr (sn9 hw))
  replace F_expectedModCount_o0 := F_expectedModCount_o0.other W9 (Or.inr (sn10 hw))
  replace F_cursor_o0 := F_cursor_o0.other W9 (Or.inr (sn11 hw))
  replace K0 := K0.wr W9 (Or.inl (List.mem_of_getElem? (i := 0) rfl))
  replace N0 := Fr.snoc X9 N0 g_o0
  refine oAal X9 H e9 (V_o3.keep K0 (ninS nx1 nin0)) d25_64 (.ref o4) ?_
  exact own_retR X9 Blk hx Bret rfl rfl rfl (hb hby d25_65) (by
      try rw [show T9.heap = h9 from e9]
      exact ⟨rfl, N0, K0, E_o0, F_this_0_o0, F_lastRet_o0, F_expectedModCount_o0, F_cursor_o0⟩) dE_ dE_

set_option maxRecDepth 65536 in
set_option maxHeartbeats 40000000 in
theorem rm25_68 (hw : oW_ a0 Z) (Z0 : n0 ≤ h0.size) (g_o0 : n0 ≤ o0) (E_o0 : Exa Z h0 o0 c5_) (F_this_0_o0 : Fld Z h0 o0 c5_ "this$0" c14_ (.ref o2)) (F_lastRet_o0 : Fld Z h0 o0 c5_ "lastRet" "I" (.int i0)) (F_expectedModCount_o0 : Fld Z h0 o0 c5_ c17_ "I" (.int i1)) (F_cursor_o0 : Fld Z h0 o0 c5_ "cursor" "I" (.int (1 : Int32))) (F_modCount_o2 : Fld Z h0 o2 c4_ "modCount" "I" (.int i1)) (F_elementData_o2 : Fld Z h0 o2 c0_ "elementData" c3_ (.ref o3)) (F_size_o2 : Fld Z h0 o2 c0_ "size" "I" (.int i2)) (V_o3 : Arv Z h0 o3 k1 (.object c1_) (10 : Int32) [(.ref o4), (.ref o5)] .null) (ne_o2_o0 : o2 ≠ o0) (hp0 : (1 : Int32) < i2) :
    oM l y16_ jdk_49_method_3_code 3 (some (.object c1_)) ws (rM_ 1 0 0 12) #[(.ref o0)] Z h0 (fun v h L => v = some (.ref o5) ∧ Fr n0 L ∧ Keep h0 h [o0] ∧ Exa Z h o0 c5_ ∧ Fld Z h o0 c5_ "this$0" c14_ (.ref o2) ∧ Fld Z h o0 c5_ "lastRet" "I" (.int (1 : Int32)) ∧ Fld Z h o0 c5_ c17_ "I" (.int i1) ∧ Fld Z h o0 c5_ "cursor" "I" (.int (2 : Int32))) := by
  refine own_body c5_ (plainFor_of_name pn_25) (fun m => ef_25 m o0) fun p e s m below meth c s₁ X0 H hnm Bret Blk e0 => ?_
  obtain ⟨hx, hZ, hown, _, hby⟩ := id H
  have N0 := Fr.nil n0
  have K0 : Keep h0 h0 [o0] := Keep.refl h0 _
  have nx1 : o3 ≠ o0 := (Ne.symm (own_nev E_o0 (hV hw 147) V_o3))
  refine oG X0 H r25_0_0 1 #[rv o0, oU, oU] [(.ref o0)] ?_
  refine ocV X0 H (wb31_ hw) (rm26_57 hw Z0 F_this_0_o0 F_expectedModCount_o0 F_modCount_o2) e0 0 o0 E_o0 [] [] pd_3 d25_1 fun T2 _ _ X2 hQ2 => ?_
  obtain ⟨rfl, N2, e2⟩ := hQ2
  replace N0 := Fr.app N0 N2
  refine oG X2 H r25_4_4 5 #[rv o0, oU, oU] [(.ref o0)] ?_
  refine oGf X2 H (hV hw 170) e2 F_cursor_o0 d25_5 fun T3 X3 e3 => ?_
  refine oG X3 H r25_8_10 11 #[rv o0, iv (1 : Int32), oU] [(.ref o0), (.int (1 : Int32))] ?_
  refine oGf X3 H (hV hw 153) e3 F_this_0_o0 d25_11 fun T4 X4 e4 => ?_
  refine oGF X4 H (Or.inr (hV hw 172)) Via.refl e4 F_size_o2 d25_14 fun T5 X5 e5 => ?_
  refine oCY X5 H oD0 d25_17 28 #[rv o0, iv (1 : Int32), oU] [] rfl (tlt hp0).1 ?_
  refine oH X5 H r25_28_28 29 [(.ref o0)] ?_
  refine oGf X5 H (hV hw 153) e5 F_this_0_o0 d25_29 fun T6 X6 e6 => ?_
  refine oGf X6 H (hV hw 186) e6 F_elementData_o2 d25_32 fun T7 X7 e7 => ?_
  refine oG X7 H r25_35_37 38 #[rv o0, iv (1 : Int32), rv o3] [(.ref o3), (.int (1 : Int32))] ?_
  refine oLen X7 H e7 V_o3 d25_38 ?_
  refine oCY X7 H oD0 d25_39 50 #[rv o0, iv (1 : Int32), rv o3] [] rfl (tlt (by decide : (1 : Int32) < (10 : Int32))).1 ?_
  refine oH X7 H r25_50_52 53 [(.int (1 : Int32)), (.int (1 : Int32)), (.ref o0)] ?_
  refine oB_ (tF_ T7 (mkF m 54 #[rv o0, iv (1 : Int32), rv o3] [(.int (2 : Int32)), (.ref o0)])) (fun t k => ?_) ?_
  · refine XS.iadd X7.here hx rfl (hb hby d25_53) rfl ?_
    exact k
  refine own_c2 (putF X7 hx hZ hown (host := "") (Or.inl (hV hw 170)) Via.refl e7 F_cursor_o0 E_o0 (Or.inl (hV hw 171)) (hV hw 147) (ty := .int) dE_ rfl rfl rfl rfl (hb hby d25_54)) fun T8 h8 X8 e8 W8 => ?_
  replace F_cursor_o0 := F_cursor_o0.same W8
  replace E_o0 := E_o0.wr W8
  replace F_this_0_o0 := F_this_0_o0.other W8 (Or.inr (sn19 hw))
  replace F_lastRet_o0 := F_lastRet_o0.other W8 (Or.inr (sn20 hw))
  replace F_expectedModCount_o0 := F_expectedModCount_o0.other W8 (Or.inr (sn21 hw))
  replace K0 := K0.wr W8 (Or.inl (List.mem_of_getElem? (i := 0) rfl))
  replace N0 := Fr.snoc X8 N0 g_o0
  refine oG X8 H r25_57_59 60 #[rv o0, iv (1 : Int32), rv o3] [(.int (1 : Int32)), (.ref o0), (.ref o3)] ?_
  refine oB_ (tF_ T8 (mkF m 61 #[rv o0, iv (1 : Int32), rv o3] [(.int (1 : Int32)), (.ref o0), (.int (1 : Int32)), (.ref o3)])) (fun t k => ?_) ?_
  · refine XS.dupX1 X8.here hx rfl (hb hby d25_60) rfl rfl rfl ?_
    exact k
  refine own_c2 (putF X8 hx hZ hown (host := "") (Or.inl (hV hw 156)) Via.refl e8 F_lastRet_o0 E_o0 (Or.inl (hV hw 157)) (hV hw 147) (ty := .int) dE_ rfl rfl rfl rfl (hb hby d25_61)) fun T9 h9 X9 e9 W9 => ?_
  replace F_lastRet_o0 := F_lastRet_o0.same W9
  replace E_o0 := E_o0.wr W9
  replace F_this_0_o0 := F_this_0_o0.other W9 (Or.inr (sn9 hw))
  replace F_expectedModCount_o0 := F_expectedModCount_o0.other W9 (Or.inr (sn10 hw))
  replace F_cursor_o0 := F_cursor_o0.other W9 (Or.inr (sn11 hw))
  replace K0 := K0.wr W9 (Or.inl (List.mem_of_getElem? (i := 0) rfl))
  replace N0 := Fr.snoc X9 N0 g_o0
  refine oAal X9 H e9 (V_o3.keep K0 (ninS nx1 nin0)) d25_64 (.ref o5) ?_
  exact own_retR X9 Blk hx Bret rfl rfl rfl (hb hby d25_65) (by
      try rw [show T9.heap = h9 from e9]
      exact ⟨rfl, N0, K0, E_o0, F_this_0_o0, F_lastRet_o0, F_expectedModCount_o0, F_cursor_o0⟩) dE_ dE_

set_option maxRecDepth 65536 in
set_option maxHeartbeats 40000000 in
theorem rm16_69 (hw : oW_ a0 Z) (Z0 : n0 ≤ h0.size) (g_o0 : n0 ≤ o0) (E_o0 : Exa Z h0 o0 c0_) (F_modCount_o0 : Fld Z h0 o0 c4_ "modCount" "I" (.int i0)) (F_elementData_o0 : Fld Z h0 o0 c0_ "elementData" c3_ (.ref o2)) (F_size_o0 : Fld Z h0 o0 c0_ "size" "I" (.int i1)) (E_o1 : Exa Z h0 o1 c8_) (g_o2 : n0 ≤ o2) (V_o2 : Arv Z h0 o2 k0 (.object c1_) (10 : Int32) [(.ref o4)] .null) (Ov_k0 : Ovr Z k0 c1_) :
    oM l y14_ jdk_38_method_24_code 4 none ws (rM_ 0 0 0 0) #[(.ref o0), (.ref o1), (.ref o2), (.int (1 : Int32))] Z h0 (fun v h L => v = none ∧ Fr n0 L ∧ Keep h0 h [o2, o0] ∧ Arv Z h o2 k0 (.object c1_) (10 : Int32) [(.ref o4), (.ref o1)] .null ∧ Exa Z h o0 c0_ ∧ Fld Z h o0 c4_ "modCount" "I" (.int i0) ∧ Fld Z h o0 c0_ "elementData" c3_ (.ref o2) ∧ Fld Z h o0 c0_ "size" "I" (.int (2 : Int32))) := by
  refine own_body c0_ (plainFor_of_name pn_16) (fun m => ef_16 m o0 o1 o2 (1 : Int32)) fun p e s m below meth c s₁ X0 H hnm Bret Blk e0 => ?_
  obtain ⟨hx, hZ, hown, _, hby⟩ := id H
  have N0 := Fr.nil n0
  have K0 : Keep h0 h0 [o2, o0] := Keep.refl h0 _
  refine oG X0 H r16_0_1 2 #[rv o0, rv o1, rv o2, iv (1 : Int32)] [(.ref o2), (.int (1 : Int32))] ?_
  refine oLen X0 H e0 V_o2 d16_2 ?_
  refine oCY X0 H oD0 d16_3 11 #[rv o0, rv o1, rv o2, iv (1 : Int32)] [] rfl (feq (by decide : ¬ ((1 : Int32) = (10 : Int32)))).2 ?_
  refine oH X0 H r16_11_13 14 [(.ref o1), (.int (1 : Int32)), (.ref o2)] ?_
  replace V_o2 : Arv Z h0 o2 k0 (.object c1_) (10 : Int32) [(.ref o4), .null] .null := V_o2.pad (pad_rep [(.ref o4)] .null 1)
  have nx1 : o0 ≠ o2 := (own_nev E_o0 (hV hw 48) V_o2)
  obtain ⟨cl1, Ar1, q1, S1, N1, H1, G1⟩ := id V_o2
  have hin1 : ¬ ((1 : Int32) < 0 ∨ cl1.slots.size ≤ ((1 : Int32)).toNatClampNeg) := inb_of S1 ⟨by decide, by decide⟩
  refine own_c2 (stR X0 hx hZ e0 Ar1 (j := (1 : Int32)) hin1 rfl (Sto.ofV Ar1 q1 Ov_k0 (Ins.of_exa E_o1 (hV hw 222))) rfl rfl (hb hby d16_14)) fun T1 h1 X1 e1 W1 => ?_
  replace V_o2 : Arv Z h1 o2 k0 (.object c1_) (10 : Int32) [(.ref o4), (.ref o1)] .null := Arv.set Ar1 q1 S1 N1 H1 G1 rfl W1 1 rfl nB_
  replace E_o0 := E_o0.wr W1
  replace F_modCount_o0 := F_modCount_o0.other W1 (Or.inl nx1)
  replace F_elementData_o0 := F_elementData_o0.other W1 (Or.inl nx1)
  replace F_size_o0 := F_size_o0.other W1 (Or.inl nx1)
  replace K0 := K0.wr W1 (Or.inl (List.mem_of_getElem? (i := 0) rfl))
  replace N0 := Fr.snoc X1 N0 g_o2
  refine oG X1 H r16_15_17 18 #[rv o0, rv o1, rv o2, iv (1 : Int32)] [(.int (1 : Int32)), (.int (1 : Int32)), (.ref o0)] ?_
  refine oB_ (tF_ T1 (mkF m 19 #[rv o0, rv o1, rv o2, iv (1 : Int32)] [(.int (2 : Int32)), (.ref o0)])) (fun t k => ?_) ?_
  · refine XS.iadd X1.here hx rfl (hb hby d16_18) rfl ?_
    exact k
  refine own_c2 (putF X1 hx hZ hown (host := "") (Or.inl (hV hw 98)) Via.refl e1 F_size_o0 E_o0 (Or.inl (hV hw 99)) (hV hw 48) (ty := .int) dE_ rfl rfl rfl rfl (hb hby d16_19)) fun T2 h2 X2 e2 W2 => ?_
  replace F_size_o0 := F_size_o0.same W2
  replace E_o0 := E_o0.wr W2
  replace F_modCount_o0 := F_modCount_o0.other W2 (Or.inr (sn17 hw))
  replace F_elementData_o0 := F_elementData_o0.other W2 (Or.inr (sn18 hw))
  replace V_o2 := V_o2.other W2 (Ne.symm nx1)
  replace K0 := K0.wr W2 (Or.inl (List.mem_of_getElem? (i := 1) rfl))
  replace N0 := Fr.snoc X2 N0 g_o0
  show own_Go p e below _ (T2.setTop (mkF m 22 #[rv o0, rv o1, rv o2, iv (1 : Int32)] []))
  exact own_retV X2 Blk hx Bret (hb hby d16_22) (by
      try rw [show T2.heap = h2 from e2]
      exact ⟨rfl, N0, K0, V_o2, E_o0, F_modCount_o0, F_elementData_o0, F_size_o0⟩) dE_ dE_

set_option maxRecDepth 65536 in
set_option maxHeartbeats 40000000 in
theorem rm15_70 (hw : oW_ a0 Z) (Z0 : n0 ≤ h0.size) (g_o0 : n0 ≤ o0) (E_o0 : Exa Z h0 o0 c0_) (F_modCount_o0 : Fld Z h0 o0 c4_ "modCount" "I" (.int i0)) (F_elementData_o0 : Fld Z h0 o0 c0_ "elementData" c3_ (.ref o3)) (F_size_o0 : Fld Z h0 o0 c0_ "size" "I" (.int (1 : Int32))) (E_o1 : Exa Z h0 o1 c8_) (g_o3 : n0 ≤ o3) (V_o3 : Arv Z h0 o3 k1 (.object c1_) (10 : Int32) [(.ref o4)] .null) (Ov_k1 : Ovr Z k1 c1_) :
    oM l y15_ jdk_38_method_25_code 2 (some .boolean) ws (rM_ 1 0 0 15) #[(.ref o0), (.ref o1)] Z h0 (fun v h L => v = some (.int (1 : Int32)) ∧ Fr n0 L ∧ Keep h0 h [o0, o3] ∧ Exa Z h o0 c0_ ∧ Fld Z h o0 c4_ "modCount" "I" (.int (i0 + (1 : Int32))) ∧ Fld Z h o0 c0_ "elementData" c3_ (.ref o3) ∧ Fld Z h o0 c0_ "size" "I" (.int (2 : Int32)) ∧ Arv Z h o3 k1 (.object c1_) (10 : Int32) [(.ref o4), (.ref o1)] .null) := by
  refine own_body c0_ (plainFor_of_name pn_15) (fun m => ef_15 m o0 o1) fun p e s m below meth c s₁ X0 H hnm Bret Blk e0 => ?_
  obtain ⟨hx, hZ, hown, _, hby⟩ := id H
  have N0 := Fr.nil n0
  have K0 : Keep h0 h0 [o0, o3] := Keep.refl h0 _
  refine oG X0 H r15_0_1 2 #[rv o0, rv o1] [(.ref o0), (.ref o0)] ?_
  refine oGF X0 H (host := "") (Or.inl (hV hw 96)) (Via.of (hV hw 97)) e0 F_modCount_o0 d15_2 fun T1 X1 e1 => ?_
  refine oG X1 H r15_5_5 6 #[rv o0, rv o1] [(.int (1 : Int32)), (.int i0), (.ref o0)] ?_
  refine oB_ (tF_ T1 (mkF m 7 #[rv o0, rv o1] [(.int (i0 + (1 : Int32))), (.ref o0)])) (fun t k => ?_) ?_
  · refine XS.iadd X1.here hx rfl (hb hby d15_6) rfl ?_
    exact k
  refine own_c2 (putF X1 hx hZ hown (host := "") (Or.inl (hV hw 96)) (Via.of (hV hw 97)) e1 F_modCount_o0 E_o0 (Or.inl (hV hw 67)) (hV hw 48) (ty := .int) dE_ rfl rfl rfl rfl (hb hby d15_7)) fun T2 h2 X2 e2 W2 => ?_
  replace F_modCount_o0 := F_modCount_o0.same W2
  have nx1 : o3 ≠ o0 := (Ne.symm (own_nev E_o0 (hV hw 48) V_o3))
  replace E_o0 := E_o0.wr W2
  replace F_elementData_o0 := F_elementData_o0.other W2 (Or.inr (sn2 hw))
  replace F_size_o0 := F_size_o0.other W2 (Or.inr (sn3 hw))
  replace V_o3 := V_o3.other W2 nx1
  replace K0 := K0.wr W2 (Or.inl (List.mem_of_getElem? (i := 0) rfl))
  replace Z0 := Nat.le_trans Z0 (Keep.of_wr W2).1
  replace N0 := Fr.snoc X2 N0 g_o0
  refine oG X2 H r15_10_12 13 #[rv o0, rv o1] [(.ref o0), (.ref o1), (.ref o0)] ?_
  refine oGf X2 H (hV hw 69) e2 F_elementData_o0 d15_13 fun T3 X3 e3 => ?_
  refine oG X3 H r15_16_16 17 #[rv o0, rv o1] [(.ref o0), (.ref o3), (.ref o1), (.ref o0)] ?_
  refine oGf X3 H (hV hw 98) e3 F_size_o0 d15_17 fun T4 X4 e4 => ?_
  refine ocP X4 H (wb29_ hw) (rm16_69 hw Z0 g_o0 E_o0 F_modCount_o0 F_elementData_o0 F_size_o0 (E_o1.keep K0) g_o3 V_o3 Ov_k1) e4 0 o0 E_o0 [(.ref o1), (.ref o3), (.int (1 : Int32))] [] pd_11 d15_20 fun T6 _ _ X6 hQ6 => ?_
  obtain ⟨rfl, N6, K6, V_o3', E_o0', F_modCount_o0', F_elementData_o0', F_size_o0'⟩ := hQ6
  replace N0 := Fr.app N0 N6
  replace K0 := K0.trans K6 (allS (Or.inl (List.mem_of_getElem? (i := 1) rfl)) (allS (Or.inl (List.mem_of_getElem? (i := 0) rfl)) all0))
  have V_o3 := V_o3'
  replace E_o0 := E_o0'
  have F_modCount_o0 := F_modCount_o0'
  have F_elementData_o0 := F_elementData_o0'
  have F_size_o0 := F_size_o0'
  refine oG X6 H r15_23_23 24 #[rv o0, rv o1] [(.int (1 : Int32))] ?_
  exact own_retN X6 Blk hx (t := .boolean) Bret (by simp) (hb hby d15_24) ⟨rfl, N0, K0, E_o0, F_modCount_o0, F_elementData_o0, F_size_o0, V_o3⟩ dE_ dE_

set_option maxRecDepth 65536 in
set_option maxHeartbeats 40000000 in
theorem rm21_71 (hw : oW_ a0 Z) (Z0 : n0 ≤ h0.size) (F_members_o0 : Fld Z h0 o0 c7_ "members" c19_ (.ref o3)) (T_o1 : own_Str Z h0 o1 l0) (V_o2 : Arv Z h0 o2 k0 (.object c1_) (0 : Int32) [] .null) (E_o3 : Exa Z h0 o3 c0_) (F_modCount_o3 : Fld Z h0 o3 c4_ "modCount" "I" (.int i0)) (F_elementData_o3 : Fld Z h0 o3 c0_ "elementData" c3_ (.ref o4)) (F_size_o3 : Fld Z h0 o3 c0_ "size" "I" (.int i1)) (V_o4 : Arv Z h0 o4 k1 (.object c1_) (10 : Int32) [(.ref o5), (.ref o6)] .null) (E_o5 : Exa Z h0 o5 c6_) (F_name_o5 : Fld Z h0 o5 c6_ "name" c9_ (.ref o7)) (F_value_o5 : Fld Z h0 o5 c6_ "value" c11_ (.ref o8)) (E_o6 : Exa Z h0 o6 c6_) (F_name_o6 : Fld Z h0 o6 c6_ "name" c9_ (.ref o9)) (F_value_o6 : Fld Z h0 o6 c6_ "value" c11_ (.ref o10)) (T_o7 : own_Str Z h0 o7 l1) (E_o8 : Exa Z h0 o8 c8_) (T_o9 : own_Str Z h0 o9 l2) (E_o10 : Exa Z h0 o10 c8_) (S_DEFAULTCAPACITY_EMPTY_ELEMENTDATA : Sta Z Z.heap c0_ c15_ c3_ (.ref o2)) (S_COMPACT_STRINGS : Sta Z Z.heap c2_ c13_ "Z" (.int i2)) (OZ : Old Z n0 h0) (hp0 : ¬ ((0 : Int32) = i1)) (hp1 : (0 : Int32) < i1) (hp2 : l1 = l0) (hp3 : ¬ (i2 = (0 : Int32))) (ne_o7_o1 : o7 ≠ o1) (hp4 : ¬ ((1 : Int32) = i1)) (hp5 : (1 : Int32) < i1) (hp6 : l2 = l0) (ne_o9_o1 : o9 ≠ o1) (hp7 : (2 : Int32) = i1) :
    oM l y13_ prog_24_method_2_code 5 (some (.object c12_)) ws (rM_ 5 3 17 69) #[(.ref o0), (.ref o1)] Z h0 (fun v h L => ∃ b1 : Addr, ∃ b19_0 : Addr, ∃ k19_1 : ClassId, v = some (.ref b1) ∧ Fr n0 L ∧ Keep h0 h [] ∧ Exa Z h b1 c0_ ∧ Fld Z h b1 c4_ "modCount" "I" (.int (2 : Int32)) ∧ Fld Z h b1 c0_ "elementData" c3_ (.ref b19_0) ∧ Fld Z h b1 c0_ "size" "I" (.int (2 : Int32)) ∧ Arv Z h b19_0 k19_1 (.object c1_) (10 : Int32) [(.ref o8), (.ref o10)] .null ∧ Ovr Z k19_1 c1_ ∧ h0.size ≤ b1 ∧ h0.size ≤ b19_0 ∧ b1 ≠ b19_0) := by
  refine own_body c7_ (plainFor_of_name pn_21) (fun m => ef_21 m o0 o1) fun p e s m below meth c s₁ X0 H hnm Bret Blk e0 => ?_
  obtain ⟨hx, _, _, _, hby⟩ := id H
  have N0 := Fr.nil n0
  have K0 : Keep h0 h0 [] := Keep.refl h0 _
  refine oNw X0 H (hV hw 136) (hV hw 48) (hV hw 49) e0 d21_0 fun T1 h1 b1 X1 e1 E1 u1 E_b1 D1 => ?_
  have g_b1 := Nat.le_trans Z0 u1
  have sz_b1 := Nat.le_trans K0.1 u1
  replace OZ := OZ.ext E1
  replace K0 := K0.ext E1
  replace Z0 := Nat.le_trans Z0 E1.1
  have F_modCount_b1 : Fld Z h1 b1 c4_ "modCount" "I" oZ := D1 (Or.inl (hV hw 67)) (ty := .int) dE_
  have F_elementData_b1 : Fld Z h1 b1 c0_ "elementData" c3_ .null := D1 (Or.inl (hV hw 70)) (ty := (.array (.object c1_))) dE_
  have F_size_b1 : Fld Z h1 b1 c0_ "size" "I" oZ := D1 (Or.inl (hV hw 99)) (ty := .int) dE_
  refine oG X1 H r21_3_3 4 (lA12_ o0 o1) [(.ref b1), (.ref b1)] ?_
  refine ocI X1 H (wb19_ hw) (rm10_43 hw Z0 g_b1 E_b1 F_modCount_b1 F_elementData_b1 F_size_b1 S_DEFAULTCAPACITY_EMPTY_ELEMENTDATA OZ) e1 1 b1 [] [(.ref b1)] pd_3 d21_4 fun T3 _ _ X3 hQ3 => ?_
  obtain ⟨rfl, N3, K3, E_b1', F_modCount_b1', F_elementData_b1', F_size_b1'⟩ := hQ3
  replace N0 := Fr.app N0 N3
  replace OZ := OZ.keep K3 (allS g_b1 all0)
  replace K0 := K0.trans K3 (allS (Or.inr sz_b1) all0)
  replace Z0 := Nat.le_trans Z0 K3.1
  replace E_b1 := E_b1'
  have F_modCount_b1 := F_modCount_b1'
  have F_elementData_b1 := F_elementData_b1'
  have F_size_b1 := F_size_b1'
  refine oG X3 H r21_7_8 9 (lA13_ o0 o1 b1) [(.ref o0)] ?_
  refine oGf X3 H (hV hw 129) rfl (F_members_o0.keep K0 nin0) d21_9 fun T4 X4 e4 => ?_
  refine ocF X4 H (wb21_ hw) (rm22_47 hw Z0 (F_modCount_o3.keep K0 nin0)) e4 0 o3 (E_o3.keep K0) [] [] pd_17 d21_12 fun T6 _ _ X6 hQ6 => ?_
  obtain ⟨b6_0, rfl, N6, K6, E_b6_0', F_this_0_b6_0', F_lastRet_b6_0', F_expectedModCount_b6_0', F_cursor_b6_0', sz_b6_0'⟩ := hQ6
  replace N0 := Fr.app N0 N6
  have g_b6_0 := Nat.le_trans Z0 sz_b6_0'
  have sz_b6_0 := Nat.le_trans K0.1 sz_b6_0'
  have ne_b1_b6_0 := oNl E_b1.lt sz_b6_0'
  replace E_b1 := E_b1.keep K6
  replace F_modCount_b1 := F_modCount_b1.keep K6 nin0
  replace F_elementData_b1 := F_elementData_b1.keep K6 nin0
  replace F_size_b1 := F_size_b1.keep K6 nin0
  replace OZ := OZ.keep K6 all0
  replace K0 := K0.trans K6 all0
  replace Z0 := Nat.le_trans Z0 K6.1
  have E_b6_0 := E_b6_0'
  have F_this_0_b6_0 := F_this_0_b6_0'
  have F_lastRet_b6_0 := F_lastRet_b6_0'
  have F_expectedModCount_b6_0 := F_expectedModCount_b6_0'
  have F_cursor_b6_0 := F_cursor_b6_0'
  refine oG X6 H r21_17_18 19 (lA14_ o0 o1 b1 b6_0) [(.ref b6_0)] ?_
  refine ocF X6 H (wb22_ hw) (rm24_56 hw Z0 F_this_0_b6_0 F_cursor_b6_0 (F_size_o3.keep K0 nin0) hp0) (rfl : T6.heap = _) 0 b6_0 E_b6_0 [] [] pd_19 d21_19 fun T8 _ _ X8 hQ8 => ?_
  obtain ⟨rfl, N8, e8⟩ := hQ8
  replace N0 := Fr.app N0 N8
  refine oIN X8 H oD0 d21_24 (lA14_ o0 o1 b1 b6_0) [] rfl ((if0 _ _).trans (feq (by decide : ¬ ((1 : Int32) = (0 : Int32)))).1) ?_
  refine oH X8 H r21_27_27 28 [(.ref b6_0)] ?_
  refine ocF X8 H (wb32_ hw) (rm25_67 hw Z0 g_b6_0 E_b6_0 F_this_0_b6_0 F_lastRet_b6_0 F_expectedModCount_b6_0 F_cursor_b6_0 (F_modCount_o3.keep K0 nin0) (F_elementData_o3.keep K0 nin0) (F_size_o3.keep K0 nin0) (V_o4.keep K0 nin0) (oNl F_modCount_o3.lt sz_b6_0) hp1) e8 0 b6_0 E_b6_0 [] [] pd_20 d21_28 fun T10 _ _ X10 hQ10 => ?_
  obtain ⟨rfl, N10, K10, E_b6_0', F_this_0_b6_0', F_lastRet_b6_0', F_expectedModCount_b6_0', F_cursor_b6_0'⟩ := hQ10
  replace N0 := Fr.app N0 N10
  replace E_b1 := E_b1.keep K10
  replace F_modCount_b1 := F_modCount_b1.keep K10 (ninS ne_b1_b6_0 nin0)
  replace F_elementData_b1 := F_elementData_b1.keep K10 (ninS ne_b1_b6_0 nin0)
  replace F_size_b1 := F_size_b1.keep K10 (ninS ne_b1_b6_0 nin0)
  replace OZ := OZ.keep K10 (allS g_b6_0 all0)
  replace K0 := K0.trans K10 (allS (Or.inr sz_b6_0) all0)
  replace Z0 := Nat.le_trans Z0 K10.1
  replace E_b6_0 := E_b6_0'
  have F_this_0_b6_0 := F_this_0_b6_0'
  have F_lastRet_b6_0 := F_lastRet_b6_0'
  have F_expectedModCount_b6_0 := F_expectedModCount_b6_0'
  have F_cursor_b6_0 := F_cursor_b6_0'
  refine oKst X10 H (hV hw 187) rfl (Ins.self (E_o5.keep K0)) d21_33 fun T11 X11 e11 => ?_
  refine oG X11 H r21_36_38 40 (lA15_ o0 o1 b1 b6_0 o5) [(.ref o5)] ?_
  refine ocV X11 H (wb33_ hw) (rm27_59 hw Z0 (F_name_o5.keep K0 nin0)) e11 0 o5 (E_o5.keep K0) [] [] pd_21 d21_40 fun T13 _ _ X13 hQ13 => ?_
  obtain ⟨rfl, N13, e13⟩ := hQ13
  replace N0 := Fr.app N0 N13
  refine oG X13 H r21_43_43 44 (lA15_ o0 o1 b1 b6_0 o5) [(.ref o1), (.ref o7)] ?_
  refine ocV X13 H (wb34_ hw) (rm28_eq hw Z0 OZ S_COMPACT_STRINGS hp3 (T_o7.keep K0) (T_o1.keep K0) ne_o7_o1 hp2) e13 0 o7 (own_Str.exa (T_o7.keep K0)) [(.ref o1)] [] pd_10 d21_44 fun T15 _ _ X15 hQ15 => ?_
  obtain ⟨rfl, N15, e15⟩ := hQ15
  replace N0 := Fr.app N0 N15
  refine oIN X15 H oD0 d21_47 (lA15_ o0 o1 b1 b6_0 o5) [] rfl ((if0 _ _).trans (feq (by decide : ¬ ((1 : Int32) = (0 : Int32)))).1) ?_
  refine oH X15 H r21_50_51 53 [(.ref o5), (.ref b1)] ?_
  refine ocV X15 H (wb35_ hw) (rm31_60 hw Z0 (F_value_o5.keep K0 nin0)) e15 1 o5 (E_o5.keep K0) [] [(.ref b1)] pd_20 d21_53 fun T17 _ _ X17 hQ17 => ?_
  obtain ⟨rfl, N17, e17⟩ := hQ17
  replace N0 := Fr.app N0 N17
  refine ocF X17 H (wb36_ hw) (rm15_62 hw Z0 g_b1 E_b1 F_modCount_b1 F_elementData_b1 F_size_b1 (E_o8.keep K0) (V_o2.keep K0 nin0) S_DEFAULTCAPACITY_EMPTY_ELEMENTDATA OZ) e17 0 b1 E_b1 [(.ref o8)] [] pd_10 d21_56 fun T19 _ _ X19 hQ19 => ?_
  obtain ⟨b19_0, k19_1, rfl, N19, K19, E_b1', F_modCount_b1', F_elementData_b1', F_size_b1', V_b19_0', Ov_k19_1', sz_b19_0'⟩ := hQ19
  replace N0 := Fr.app N0 N19
  have g_b19_0 := Nat.le_trans Z0 sz_b19_0'
  have sz_b19_0 := Nat.le_trans K0.1 sz_b19_0'
  have ne_b1_b19_0 := oNl E_b1.lt sz_b19_0'
  have ne_b6_0_b19_0 := oNl E_b6_0.lt sz_b19_0'
  replace E_b6_0 := E_b6_0.keep K19
  replace F_this_0_b6_0 := F_this_0_b6_0.keep K19 (ninS (Ne.symm ne_b1_b6_0) nin0)
  replace F_lastRet_b6_0 := F_lastRet_b6_0.keep K19 (ninS (Ne.symm ne_b1_b6_0) nin0)
  replace F_expectedModCount_b6_0 := F_expectedModCount_b6_0.keep K19 (ninS (Ne.symm ne_b1_b6_0) nin0)
  replace F_cursor_b6_0 := F_cursor_b6_0.keep K19 (ninS (Ne.symm ne_b1_b6_0) nin0)
  replace OZ := OZ.keep K19 (allS g_b1 all0)
  replace K0 := K0.trans K19 (allS (Or.inr sz_b1) all0)
  replace Z0 := Nat.le_trans Z0 K19.1
  replace E_b1 := E_b1'
  have F_modCount_b1 : Fld Z T19.heap b1 c4_ "modCount" "I" (.int (1 : Int32)) := F_modCount_b1'
  have F_elementData_b1 := F_elementData_b1'
  have F_size_b1 := F_size_b1'
  have V_b19_0 := V_b19_0'
  have Ov_k19_1 := Ov_k19_1'
  refine oB_ (tF_ T19 (mkF m 62 (lA15_ o0 o1 b1 b6_0 o5) [])) (fun t k => ?_) ?_
  · refine XS.pop X19.here hx rfl (hb hby d21_61) rfl rfl ?_
    exact k
  refine oH X19 H r21_62_18 19 [(.ref b6_0)] ?_
  refine ocF X19 H (wb22_ hw) (rm24_56 hw Z0 F_this_0_b6_0 F_cursor_b6_0 (F_size_o3.keep K0 nin0) hp4) (rfl : T19.heap = _) 0 b6_0 E_b6_0 [] [] pd_19 d21_19 fun T21 _ _ X21 hQ21 => ?_
  obtain ⟨rfl, N21, e21⟩ := hQ21
  replace N0 := Fr.app N0 N21
  refine oIN X21 H oD0 d21_24 (lA15_ o0 o1 b1 b6_0 o5) [] rfl ((if0 _ _).trans (feq (by decide : ¬ ((1 : Int32) = (0 : Int32)))).1) ?_
  refine oH X21 H r21_27_27 28 [(.ref b6_0)] ?_
  refine ocF X21 H (wb32_ hw) (rm25_68 hw Z0 g_b6_0 E_b6_0 F_this_0_b6_0 F_lastRet_b6_0 F_expectedModCount_b6_0 F_cursor_b6_0 (F_modCount_o3.keep K0 nin0) (F_elementData_o3.keep K0 nin0) (F_size_o3.keep K0 nin0) (V_o4.keep K0 nin0) (oNl F_modCount_o3.lt sz_b6_0) hp5) e21 0 b6_0 E_b6_0 [] [] pd_20 d21_28 fun T23 _ _ X23 hQ23 => ?_
  obtain ⟨rfl, N23, K23, E_b6_0', F_this_0_b6_0', _, _, F_cursor_b6_0'⟩ := hQ23
  replace N0 := Fr.app N0 N23
  replace E_b1 := E_b1.keep K23
  replace F_modCount_b1 := F_modCount_b1.keep K23 (ninS ne_b1_b6_0 nin0)
  replace F_elementData_b1 := F_elementData_b1.keep K23 (ninS ne_b1_b6_0 nin0)
  replace F_size_b1 := F_size_b1.keep K23 (ninS ne_b1_b6_0 nin0)
  replace V_b19_0 := V_b19_0.keep K23 (ninS (Ne.symm ne_b6_0_b19_0) nin0)
  replace OZ := OZ.keep K23 (allS g_b6_0 all0)
  replace K0 := K0.trans K23 (allS (Or.inr sz_b6_0) all0)
  replace Z0 := Nat.le_trans Z0 K23.1
  replace E_b6_0 := E_b6_0'
  have F_this_0_b6_0 := F_this_0_b6_0'
  have F_cursor_b6_0 := F_cursor_b6_0'
  refine oKst X23 H (hV hw 187) rfl (Ins.self (E_o6.keep K0)) d21_33 fun T24 X24 e24 => ?_
  refine oG X24 H r21_36_38 40 (lA15_ o0 o1 b1 b6_0 o6) [(.ref o6)] ?_
  refine ocV X24 H (wb33_ hw) (rm27_59 hw Z0 (F_name_o6.keep K0 nin0)) e24 0 o6 (E_o6.keep K0) [] [] pd_21 d21_40 fun T26 _ _ X26 hQ26 => ?_
  obtain ⟨rfl, N26, e26⟩ := hQ26
  replace N0 := Fr.app N0 N26
  refine oG X26 H r21_43_43 44 (lA15_ o0 o1 b1 b6_0 o6) [(.ref o1), (.ref o9)] ?_
  refine ocV X26 H (wb34_ hw) (rm28_eq hw Z0 OZ S_COMPACT_STRINGS hp3 (T_o9.keep K0) (T_o1.keep K0) ne_o9_o1 hp6) e26 0 o9 (own_Str.exa (T_o9.keep K0)) [(.ref o1)] [] pd_10 d21_44 fun T28 _ _ X28 hQ28 => ?_
  obtain ⟨rfl, N28, e28⟩ := hQ28
  replace N0 := Fr.app N0 N28
  refine oIN X28 H oD0 d21_47 (lA15_ o0 o1 b1 b6_0 o6) [] rfl ((if0 _ _).trans (feq (by decide : ¬ ((1 : Int32) = (0 : Int32)))).1) ?_
  refine oH X28 H r21_50_51 53 [(.ref o6), (.ref b1)] ?_
  refine ocV X28 H (wb35_ hw) (rm31_60 hw Z0 (F_value_o6.keep K0 nin0)) e28 1 o6 (E_o6.keep K0) [] [(.ref b1)] pd_20 d21_53 fun T30 _ _ X30 hQ30 => ?_
  obtain ⟨rfl, N30, e30⟩ := hQ30
  replace N0 := Fr.app N0 N30
  refine ocF X30 H (wb36_ hw) (rm15_70 hw Z0 g_b1 E_b1 F_modCount_b1 F_elementData_b1 F_size_b1 (E_o10.keep K0) g_b19_0 V_b19_0 Ov_k19_1) e30 0 b1 E_b1 [(.ref o10)] [] pd_10 d21_56 fun T32 _ _ X32 hQ32 => ?_
  obtain ⟨rfl, N32, K32, E_b1', F_modCount_b1', F_elementData_b1', F_size_b1', V_b19_0'⟩ := hQ32
  replace N0 := Fr.app N0 N32
  replace E_b6_0 := E_b6_0.keep K32
  replace F_this_0_b6_0 := F_this_0_b6_0.keep K32 (ninS (Ne.symm ne_b1_b6_0) (ninS ne_b6_0_b19_0 nin0))
  replace F_cursor_b6_0 := F_cursor_b6_0.keep K32 (ninS (Ne.symm ne_b1_b6_0) (ninS ne_b6_0_b19_0 nin0))
  replace K0 := K0.trans K32 (allS (Or.inr sz_b1) (allS (Or.inr sz_b19_0) all0))
  replace Z0 := Nat.le_trans Z0 K32.1
  replace E_b1 := E_b1'
  have F_modCount_b1 : Fld Z T32.heap b1 c4_ "modCount" "I" (.int (2 : Int32)) := F_modCount_b1'
  have F_elementData_b1 := F_elementData_b1'
  have F_size_b1 := F_size_b1'
  have V_b19_0 := V_b19_0'
  refine oB_ (tF_ T32 (mkF m 62 (lA15_ o0 o1 b1 b6_0 o6) [])) (fun t k => ?_) ?_
  · refine XS.pop X32.here hx rfl (hb hby d21_61) rfl rfl ?_
    exact k
  refine oH X32 H r21_62_18 19 [(.ref b6_0)] ?_
  refine ocF X32 H (wb22_ hw) (rm24_48 hw Z0 F_this_0_b6_0 F_cursor_b6_0 (F_size_o3.keep K0 nin0) hp7) (rfl : T32.heap = _) 0 b6_0 E_b6_0 [] [] pd_19 d21_19 fun T34 _ _ X34 hQ34 => ?_
  obtain ⟨rfl, N34, e34⟩ := hQ34
  replace N0 := Fr.app N0 N34
  refine oIY X34 H oD0 d21_24 65 (lA15_ o0 o1 b1 b6_0 o6) [] rfl ((if0 _ _).trans (teq (by decide : (0 : Int32) = (0 : Int32))).1) ?_
  refine oH X34 H r21_65_65 66 [(.ref b1)] ?_
  exact own_retR X34 Blk hx Bret rfl rfl rfl (hb hby d21_66) (by
      try rw [show T34.heap = T32.heap from e34]
      exact ⟨b1, b19_0, k19_1, rfl, N0, K0, E_b1, F_modCount_b1, F_elementData_b1, F_size_b1, V_b19_0, Ov_k19_1, sz_b1, sz_b19_0, ne_b1_b19_0⟩) dE_ dE_

set_option maxRecDepth 65536 in
set_option maxHeartbeats 40000000 in
theorem rm21_72 (hw : oW_ a0 Z) (Z0 : n0 ≤ h0.size) (F_members_o0 : Fld Z h0 o0 c7_ "members" c19_ (.ref o3)) (T_o1 : own_Str Z h0 o1 l0) (V_o2 : Arv Z h0 o2 k0 (.object c1_) (0 : Int32) [] .null) (E_o3 : Exa Z h0 o3 c0_) (F_modCount_o3 : Fld Z h0 o3 c4_ "modCount" "I" (.int i0)) (F_elementData_o3 : Fld Z h0 o3 c0_ "elementData" c3_ (.ref o4)) (F_size_o3 : Fld Z h0 o3 c0_ "size" "I" (.int i1)) (V_o4 : Arv Z h0 o4 k1 (.object c1_) (10 : Int32) [(.ref o5), (.ref o6)] .null) (E_o5 : Exa Z h0 o5 c6_) (F_name_o5 : Fld Z h0 o5 c6_ "name" c9_ (.ref o7)) (F_value_o5 : Fld Z h0 o5 c6_ "value" c11_ (.ref o8)) (E_o6 : Exa Z h0 o6 c6_) (F_name_o6 : Fld Z h0 o6 c6_ "name" c9_ (.ref o9)) (T_o7 : own_Str Z h0 o7 l1) (E_o8 : Exa Z h0 o8 c8_) (T_o9 : own_Str Z h0 o9 l2) (S_DEFAULTCAPACITY_EMPTY_ELEMENTDATA : Sta Z Z.heap c0_ c15_ c3_ (.ref o2)) (S_COMPACT_STRINGS : Sta Z Z.heap c2_ c13_ "Z" (.int i2)) (OZ : Old Z n0 h0) (hp0 : ¬ ((0 : Int32) = i1)) (hp1 : (0 : Int32) < i1) (hp2 : l1 = l0) (hp3 : ¬ (i2 = (0 : Int32))) (ne_o7_o1 : o7 ≠ o1) (hp4 : ¬ ((1 : Int32) = i1)) (hp5 : (1 : Int32) < i1) (hp6 : ¬ (l2 = l0)) (ne_o9_o1 : o9 ≠ o1) (hp7 : (2 : Int32) = i1) :
    oM l y13_ prog_24_method_2_code 5 (some (.object c12_)) ws (rM_ 5 3 17 69) #[(.ref o0), (.ref o1)] Z h0 (fun v h L => ∃ b1 : Addr, ∃ b19_0 : Addr, ∃ k19_1 : ClassId, v = some (.ref b1) ∧ Fr n0 L ∧ Keep h0 h [] ∧ Exa Z h b1 c0_ ∧ Fld Z h b1 c4_ "modCount" "I" (.int (1 : Int32)) ∧ Fld Z h b1 c0_ "elementData" c3_ (.ref b19_0) ∧ Fld Z h b1 c0_ "size" "I" (.int (1 : Int32)) ∧ Arv Z h b19_0 k19_1 (.object c1_) (10 : Int32) [(.ref o8)] .null ∧ Ovr Z k19_1 c1_ ∧ h0.size ≤ b1 ∧ h0.size ≤ b19_0 ∧ b1 ≠ b19_0) := by
  refine own_body c7_ (plainFor_of_name pn_21) (fun m => ef_21 m o0 o1) fun p e s m below meth c s₁ X0 H hnm Bret Blk e0 => ?_
  obtain ⟨hx, _, _, _, hby⟩ := id H
  have N0 := Fr.nil n0
  have K0 : Keep h0 h0 [] := Keep.refl h0 _
  refine oNw X0 H (hV hw 136) (hV hw 48) (hV hw 49) e0 d21_0 fun T1 h1 b1 X1 e1 E1 u1 E_b1 D1 => ?_
  have g_b1 := Nat.le_trans Z0 u1
  have sz_b1 := Nat.le_trans K0.1 u1
  replace OZ := OZ.ext E1
  replace K0 := K0.ext E1
  replace Z0 := Nat.le_trans Z0 E1.1
  have F_modCount_b1 : Fld Z h1 b1 c4_ "modCount" "I" oZ := D1 (Or.inl (hV hw 67)) (ty := .int) dE_
  have F_elementData_b1 : Fld Z h1 b1 c0_ "elementData" c3_ .null := D1 (Or.inl (hV hw 70)) (ty := (.array (.object c1_))) dE_
  have F_size_b1 : Fld Z h1 b1 c0_ "size" "I" oZ := D1 (Or.inl (hV hw 99)) (ty := .int) dE_
  refine oG X1 H r21_3_3 4 (lA12_ o0 o1) [(.ref b1), (.ref b1)] ?_
  refine ocI X1 H (wb19_ hw) (rm10_43 hw Z0 g_b1 E_b1 F_modCount_b1 F_elementData_b1 F_size_b1 S_DEFAULTCAPACITY_EMPTY_ELEMENTDATA OZ) e1 1 b1 [] [(.ref b1)] pd_3 d21_4 fun T3 _ _ X3 hQ3 => ?_
  obtain ⟨rfl, N3, K3, E_b1', F_modCount_b1', F_elementData_b1', F_size_b1'⟩ := hQ3
  replace N0 := Fr.app N0 N3
  replace OZ := OZ.keep K3 (allS g_b1 all0)
  replace K0 := K0.trans K3 (allS (Or.inr sz_b1) all0)
  replace Z0 := Nat.le_trans Z0 K3.1
  replace E_b1 := E_b1'
  have F_modCount_b1 := F_modCount_b1'
  have F_elementData_b1 := F_elementData_b1'
  have F_size_b1 := F_size_b1'
  refine oG X3 H r21_7_8 9 (lA13_ o0 o1 b1) [(.ref o0)] ?_
  refine oGf X3 H (hV hw 129) rfl (F_members_o0.keep K0 nin0) d21_9 fun T4 X4 e4 => ?_
  refine ocF X4 H (wb21_ hw) (rm22_47 hw Z0 (F_modCount_o3.keep K0 nin0)) e4 0 o3 (E_o3.keep K0) [] [] pd_17 d21_12 fun T6 _ _ X6 hQ6 => ?_
  obtain ⟨b6_0, rfl, N6, K6, E_b6_0', F_this_0_b6_0', F_lastRet_b6_0', F_expectedModCount_b6_0', F_cursor_b6_0', sz_b6_0'⟩ := hQ6
  replace N0 := Fr.app N0 N6
  have g_b6_0 := Nat.le_trans Z0 sz_b6_0'
  have sz_b6_0 := Nat.le_trans K0.1 sz_b6_0'
  have ne_b1_b6_0 := oNl E_b1.lt sz_b6_0'
  replace E_b1 := E_b1.keep K6
  replace F_modCount_b1 := F_modCount_b1.keep K6 nin0
  replace F_elementData_b1 := F_elementData_b1.keep K6 nin0
  replace F_size_b1 := F_size_b1.keep K6 nin0
  replace OZ := OZ.keep K6 all0
  replace K0 := K0.trans K6 all0
  replace Z0 := Nat.le_trans Z0 K6.1
  have E_b6_0 := E_b6_0'
  have F_this_0_b6_0 := F_this_0_b6_0'
  have F_lastRet_b6_0 := F_lastRet_b6_0'
  have F_expectedModCount_b6_0 := F_expectedModCount_b6_0'
  have F_cursor_b6_0 := F_cursor_b6_0'
  refine oG X6 H r21_17_18 19 (lA14_ o0 o1 b1 b6_0) [(.ref b6_0)] ?_
  refine ocF X6 H (wb22_ hw) (rm24_56 hw Z0 F_this_0_b6_0 F_cursor_b6_0 (F_size_o3.keep K0 nin0) hp0) (rfl : T6.heap = _) 0 b6_0 E_b6_0 [] [] pd_19 d21_19 fun T8 _ _ X8 hQ8 => ?_
  obtain ⟨rfl, N8, e8⟩ := hQ8
  replace N0 := Fr.app N0 N8
  refine oIN X8 H oD0 d21_24 (lA14_ o0 o1 b1 b6_0) [] rfl ((if0 _ _).trans (feq (by decide : ¬ ((1 : Int32) = (0 : Int32)))).1) ?_
  refine oH X8 H r21_27_27 28 [(.ref b6_0)] ?_
  refine ocF X8 H (wb32_ hw) (rm25_67 hw Z0 g_b6_0 E_b6_0 F_this_0_b6_0 F_lastRet_b6_0 F_expectedModCount_b6_0 F_cursor_b6_0 (F_modCount_o3.keep K0 nin0) (F_elementData_o3.keep K0 nin0) (F_size_o3.keep K0 nin0) (V_o4.keep K0 nin0) (oNl F_modCount_o3.lt sz_b6_0) hp1) e8 0 b6_0 E_b6_0 [] [] pd_20 d21_28 fun T10 _ _ X10 hQ10 => ?_
  obtain ⟨rfl, N10, K10, E_b6_0', F_this_0_b6_0', F_lastRet_b6_0', F_expectedModCount_b6_0', F_cursor_b6_0'⟩ := hQ10
  replace N0 := Fr.app N0 N10
  replace E_b1 := E_b1.keep K10
  replace F_modCount_b1 := F_modCount_b1.keep K10 (ninS ne_b1_b6_0 nin0)
  replace F_elementData_b1 := F_elementData_b1.keep K10 (ninS ne_b1_b6_0 nin0)
  replace F_size_b1 := F_size_b1.keep K10 (ninS ne_b1_b6_0 nin0)
  replace OZ := OZ.keep K10 (allS g_b6_0 all0)
  replace K0 := K0.trans K10 (allS (Or.inr sz_b6_0) all0)
  replace Z0 := Nat.le_trans Z0 K10.1
  replace E_b6_0 := E_b6_0'
  have F_this_0_b6_0 := F_this_0_b6_0'
  have F_lastRet_b6_0 := F_lastRet_b6_0'
  have F_expectedModCount_b6_0 := F_expectedModCount_b6_0'
  have F_cursor_b6_0 := F_cursor_b6_0'
  refine oKst X10 H (hV hw 187) rfl (Ins.self (E_o5.keep K0)) d21_33 fun T11 X11 e11 => ?_
  refine oG X11 H r21_36_38 40 (lA15_ o0 o1 b1 b6_0 o5) [(.ref o5)] ?_
  refine ocV X11 H (wb33_ hw) (rm27_59 hw Z0 (F_name_o5.keep K0 nin0)) e11 0 o5 (E_o5.keep K0) [] [] pd_21 d21_40 fun T13 _ _ X13 hQ13 => ?_
  obtain ⟨rfl, N13, e13⟩ := hQ13
  replace N0 := Fr.app N0 N13
  refine oG X13 H r21_43_43 44 (lA15_ o0 o1 b1 b6_0 o5) [(.ref o1), (.ref o7)] ?_
  refine ocV X13 H (wb34_ hw) (rm28_eq hw Z0 OZ S_COMPACT_STRINGS hp3 (T_o7.keep K0) (T_o1.keep K0) ne_o7_o1 hp2) e13 0 o7 (own_Str.exa (T_o7.keep K0)) [(.ref o1)] [] pd_10 d21_44 fun T15 _ _ X15 hQ15 => ?_
  obtain ⟨rfl, N15, e15⟩ := hQ15
  replace N0 := Fr.app N0 N15
  refine oIN X15 H oD0 d21_47 (lA15_ o0 o1 b1 b6_0 o5) [] rfl ((if0 _ _).trans (feq (by decide : ¬ ((1 : Int32) = (0 : Int32)))).1) ?_
  refine oH X15 H r21_50_51 53 [(.ref o5), (.ref b1)] ?_
  refine ocV X15 H (wb35_ hw) (rm31_60 hw Z0 (F_value_o5.keep K0 nin0)) e15 1 o5 (E_o5.keep K0) [] [(.ref b1)] pd_20 d21_53 fun T17 _ _ X17 hQ17 => ?_
  obtain ⟨rfl, N17, e17⟩ := hQ17
  replace N0 := Fr.app N0 N17
  refine ocF X17 H (wb36_ hw) (rm15_62 hw Z0 g_b1 E_b1 F_modCount_b1 F_elementData_b1 F_size_b1 (E_o8.keep K0) (V_o2.keep K0 nin0) S_DEFAULTCAPACITY_EMPTY_ELEMENTDATA OZ) e17 0 b1 E_b1 [(.ref o8)] [] pd_10 d21_56 fun T19 _ _ X19 hQ19 => ?_
  obtain ⟨b19_0, k19_1, rfl, N19, K19, E_b1', F_modCount_b1', F_elementData_b1', F_size_b1', V_b19_0', Ov_k19_1', sz_b19_0'⟩ := hQ19
  replace N0 := Fr.app N0 N19
  have sz_b19_0 := Nat.le_trans K0.1 sz_b19_0'
  have ne_b1_b19_0 := oNl E_b1.lt sz_b19_0'
  have ne_b6_0_b19_0 := oNl E_b6_0.lt sz_b19_0'
  replace E_b6_0 := E_b6_0.keep K19
  replace F_this_0_b6_0 := F_this_0_b6_0.keep K19 (ninS (Ne.symm ne_b1_b6_0) nin0)
  replace F_lastRet_b6_0 := F_lastRet_b6_0.keep K19 (ninS (Ne.symm ne_b1_b6_0) nin0)
  replace F_expectedModCount_b6_0 := F_expectedModCount_b6_0.keep K19 (ninS (Ne.symm ne_b1_b6_0) nin0)
  replace F_cursor_b6_0 := F_cursor_b6_0.keep K19 (ninS (Ne.symm ne_b1_b6_0) nin0)
  replace OZ := OZ.keep K19 (allS g_b1 all0)
  replace K0 := K0.trans K19 (allS (Or.inr sz_b1) all0)
  replace Z0 := Nat.le_trans Z0 K19.1
  replace E_b1 := E_b1'
  have F_modCount_b1 : Fld Z T19.heap b1 c4_ "modCount" "I" (.int (1 : Int32)) := F_modCount_b1'
  have F_elementData_b1 := F_elementData_b1'
  have F_size_b1 := F_size_b1'
  have V_b19_0 := V_b19_0'
  have Ov_k19_1 := Ov_k19_1'
  refine oB_ (tF_ T19 (mkF m 62 (lA15_ o0 o1 b1 b6_0 o5) [])) (fun t k => ?_) ?_
  · refine XS.pop X19.here hx rfl (hb hby d21_61) rfl rfl ?_
    exact k
  refine oH X19 H r21_62_18 19 [(.ref b6_0)] ?_
  refine ocF X19 H (wb22_ hw) (rm24_56 hw Z0 F_this_0_b6_0 F_cursor_b6_0 (F_size_o3.keep K0 nin0) hp4) (rfl : T19.heap = _) 0 b6_0 E_b6_0 [] [] pd_19 d21_19 fun T21 _ _ X21 hQ21 => ?_
  obtain ⟨rfl, N21, e21⟩ := hQ21
  replace N0 := Fr.app N0 N21
  refine oIN X21 H oD0 d21_24 (lA15_ o0 o1 b1 b6_0 o5) [] rfl ((if0 _ _).trans (feq (by decide : ¬ ((1 : Int32) = (0 : Int32)))).1) ?_
  refine oH X21 H r21_27_27 28 [(.ref b6_0)] ?_
  refine ocF X21 H (wb32_ hw) (rm25_68 hw Z0 g_b6_0 E_b6_0 F_this_0_b6_0 F_lastRet_b6_0 F_expectedModCount_b6_0 F_cursor_b6_0 (F_modCount_o3.keep K0 nin0) (F_elementData_o3.keep K0 nin0) (F_size_o3.keep K0 nin0) (V_o4.keep K0 nin0) (oNl F_modCount_o3.lt sz_b6_0) hp5) e21 0 b6_0 E_b6_0 [] [] pd_20 d21_28 fun T23 _ _ X23 hQ23 => ?_
  obtain ⟨rfl, N23, K23, E_b6_0', F_this_0_b6_0', _, _, F_cursor_b6_0'⟩ := hQ23
  replace N0 := Fr.app N0 N23
  replace E_b1 := E_b1.keep K23
  replace F_modCount_b1 := F_modCount_b1.keep K23 (ninS ne_b1_b6_0 nin0)
  replace F_elementData_b1 := F_elementData_b1.keep K23 (ninS ne_b1_b6_0 nin0)
  replace F_size_b1 := F_size_b1.keep K23 (ninS ne_b1_b6_0 nin0)
  replace V_b19_0 := V_b19_0.keep K23 (ninS (Ne.symm ne_b6_0_b19_0) nin0)
  replace OZ := OZ.keep K23 (allS g_b6_0 all0)
  replace K0 := K0.trans K23 (allS (Or.inr sz_b6_0) all0)
  replace Z0 := Nat.le_trans Z0 K23.1
  replace E_b6_0 := E_b6_0'
  have F_this_0_b6_0 := F_this_0_b6_0'
  have F_cursor_b6_0 := F_cursor_b6_0'
  refine oKst X23 H (hV hw 187) rfl (Ins.self (E_o6.keep K0)) d21_33 fun T24 X24 e24 => ?_
  refine oG X24 H r21_36_38 40 (lA15_ o0 o1 b1 b6_0 o6) [(.ref o6)] ?_
  refine ocV X24 H (wb33_ hw) (rm27_59 hw Z0 (F_name_o6.keep K0 nin0)) e24 0 o6 (E_o6.keep K0) [] [] pd_21 d21_40 fun T26 _ _ X26 hQ26 => ?_
  obtain ⟨rfl, N26, e26⟩ := hQ26
  replace N0 := Fr.app N0 N26
  refine oG X26 H r21_43_43 44 (lA15_ o0 o1 b1 b6_0 o6) [(.ref o1), (.ref o9)] ?_
  refine ocV X26 H (wb34_ hw) (rm28_ne hw Z0 OZ S_COMPACT_STRINGS hp3 (T_o9.keep K0) (T_o1.keep K0) ne_o9_o1 hp6) e26 0 o9 (own_Str.exa (T_o9.keep K0)) [(.ref o1)] [] pd_10 d21_44 fun T28 _ _ X28 hQ28 => ?_
  obtain ⟨rfl, N28, e28⟩ := hQ28
  replace N0 := Fr.app N0 N28
  refine oIY X28 H oD0 d21_47 62 (lA15_ o0 o1 b1 b6_0 o6) [] rfl ((if0 _ _).trans (teq (by decide : (0 : Int32) = (0 : Int32))).1) ?_
  refine oH X28 H r21_62_18 19 [(.ref b6_0)] ?_
  refine ocF X28 H (wb22_ hw) (rm24_48 hw Z0 F_this_0_b6_0 F_cursor_b6_0 (F_size_o3.keep K0 nin0) hp7) e28 0 b6_0 E_b6_0 [] [] pd_19 d21_19 fun T30 _ _ X30 hQ30 => ?_
  obtain ⟨rfl, N30, e30⟩ := hQ30
  replace N0 := Fr.app N0 N30
  refine oIY X30 H oD0 d21_24 65 (lA15_ o0 o1 b1 b6_0 o6) [] rfl ((if0 _ _).trans (teq (by decide : (0 : Int32) = (0 : Int32))).1) ?_
  refine oH X30 H r21_65_65 66 [(.ref b1)] ?_
  exact own_retR X30 Blk hx Bret rfl rfl rfl (hb hby d21_66) (by
      try rw [show T30.heap = T23.heap from e30]
      exact ⟨b1, b19_0, k19_1, rfl, N0, K0, E_b1, F_modCount_b1, F_elementData_b1, F_size_b1, V_b19_0, Ov_k19_1, sz_b1, sz_b19_0, ne_b1_b19_0⟩) dE_ dE_

set_option maxRecDepth 65536 in
set_option maxHeartbeats 40000000 in
theorem rm21_73 (hw : oW_ a0 Z) (Z0 : n0 ≤ h0.size) (F_members_o0 : Fld Z h0 o0 c7_ "members" c19_ (.ref o3)) (T_o1 : own_Str Z h0 o1 l0) (V_o2 : Arv Z h0 o2 k0 (.object c1_) (0 : Int32) [] .null) (E_o3 : Exa Z h0 o3 c0_) (F_modCount_o3 : Fld Z h0 o3 c4_ "modCount" "I" (.int i0)) (F_elementData_o3 : Fld Z h0 o3 c0_ "elementData" c3_ (.ref o4)) (F_size_o3 : Fld Z h0 o3 c0_ "size" "I" (.int i1)) (V_o4 : Arv Z h0 o4 k1 (.object c1_) (10 : Int32) [(.ref o5), (.ref o6)] .null) (E_o5 : Exa Z h0 o5 c6_) (F_name_o5 : Fld Z h0 o5 c6_ "name" c9_ (.ref o7)) (E_o6 : Exa Z h0 o6 c6_) (F_name_o6 : Fld Z h0 o6 c6_ "name" c9_ (.ref o9)) (F_value_o6 : Fld Z h0 o6 c6_ "value" c11_ (.ref o10)) (T_o7 : own_Str Z h0 o7 l1) (T_o9 : own_Str Z h0 o9 l2) (E_o10 : Exa Z h0 o10 c8_) (S_DEFAULTCAPACITY_EMPTY_ELEMENTDATA : Sta Z Z.heap c0_ c15_ c3_ (.ref o2)) (S_COMPACT_STRINGS : Sta Z Z.heap c2_ c13_ "Z" (.int i2)) (OZ : Old Z n0 h0) (hp0 : ¬ ((0 : Int32) = i1)) (hp1 : (0 : Int32) < i1) (hp2 : ¬ (l1 = l0)) (hp3 : ¬ (i2 = (0 : Int32))) (ne_o7_o1 : o7 ≠ o1) (hp4 : ¬ ((1 : Int32) = i1)) (hp5 : (1 : Int32) < i1) (hp6 : l2 = l0) (ne_o9_o1 : o9 ≠ o1) (hp7 : (2 : Int32) = i1) :
    oM l y13_ prog_24_method_2_code 5 (some (.object c12_)) ws (rM_ 5 3 17 69) #[(.ref o0), (.ref o1)] Z h0 (fun v h L => ∃ b1 : Addr, ∃ b28_0 : Addr, ∃ k28_1 : ClassId, v = some (.ref b1) ∧ Fr n0 L ∧ Keep h0 h [] ∧ Exa Z h b1 c0_ ∧ Fld Z h b1 c4_ "modCount" "I" (.int (1 : Int32)) ∧ Fld Z h b1 c0_ "elementData" c3_ (.ref b28_0) ∧ Fld Z h b1 c0_ "size" "I" (.int (1 : Int32)) ∧ Arv Z h b28_0 k28_1 (.object c1_) (10 : Int32) [(.ref o10)] .null ∧ Ovr Z k28_1 c1_ ∧ h0.size ≤ b1 ∧ h0.size ≤ b28_0 ∧ b1 ≠ b28_0) := by
  refine own_body c7_ (plainFor_of_name pn_21) (fun m => ef_21 m o0 o1) fun p e s m below meth c s₁ X0 H hnm Bret Blk e0 => ?_
  obtain ⟨hx, _, _, _, hby⟩ := id H
  have N0 := Fr.nil n0
  have K0 : Keep h0 h0 [] := Keep.refl h0 _
  refine oNw X0 H (hV hw 136) (hV hw 48) (hV hw 49) e0 d21_0 fun T1 h1 b1 X1 e1 E1 u1 E_b1 D1 => ?_
  have g_b1 := Nat.le_trans Z0 u1
  have sz_b1 := Nat.le_trans K0.1 u1
  replace OZ := OZ.ext E1
  replace K0 := K0.ext E1
  replace Z0 := Nat.le_trans Z0 E1.1
  have F_modCount_b1 : Fld Z h1 b1 c4_ "modCount" "I" oZ := D1 (Or.inl (hV hw 67)) (ty := .int) dE_
  have F_elementData_b1 : Fld Z h1 b1 c0_ "elementData" c3_ .null := D1 (Or.inl (hV hw 70)) (ty := (.array (.object c1_))) dE_
  have F_size_b1 : Fld Z h1 b1 c0_ "size" "I" oZ := D1 (Or.inl (hV hw 99)) (ty := .int) dE_
  refine oG X1 H r21_3_3 4 (lA12_ o0 o1) [(.ref b1), (.ref b1)] ?_
  refine ocI X1 H (wb19_ hw) (rm10_43 hw Z0 g_b1 E_b1 F_modCount_b1 F_elementData_b1 F_size_b1 S_DEFAULTCAPACITY_EMPTY_ELEMENTDATA OZ) e1 1 b1 [] [(.ref b1)] pd_3 d21_4 fun T3 _ _ X3 hQ3 => ?_
  obtain ⟨rfl, N3, K3, E_b1', F_modCount_b1', F_elementData_b1', F_size_b1'⟩ := hQ3
  replace N0 := Fr.app N0 N3
  replace OZ := OZ.keep K3 (allS g_b1 all0)
  replace K0 := K0.trans K3 (allS (Or.inr sz_b1) all0)
  replace Z0 := Nat.le_trans Z0 K3.1
  replace E_b1 := E_b1'
  have F_modCount_b1 := F_modCount_b1'
  have F_elementData_b1 := F_elementData_b1'
  have F_size_b1 := F_size_b1'
  refine oG X3 H r21_7_8 9 (lA13_ o0 o1 b1) [(.ref o0)] ?_
  refine oGf X3 H (hV hw 129) rfl (F_members_o0.keep K0 nin0) d21_9 fun T4 X4 e4 => ?_
  refine ocF X4 H (wb21_ hw) (rm22_47 hw Z0 (F_modCount_o3.keep K0 nin0)) e4 0 o3 (E_o3.keep K0) [] [] pd_17 d21_12 fun T6 _ _ X6 hQ6 => ?_
  obtain ⟨b6_0, rfl, N6, K6, E_b6_0', F_this_0_b6_0', F_lastRet_b6_0', F_expectedModCount_b6_0', F_cursor_b6_0', sz_b6_0'⟩ := hQ6
  replace N0 := Fr.app N0 N6
  have g_b6_0 := Nat.le_trans Z0 sz_b6_0'
  have sz_b6_0 := Nat.le_trans K0.1 sz_b6_0'
  have ne_b1_b6_0 := oNl E_b1.lt sz_b6_0'
  replace E_b1 := E_b1.keep K6
  replace F_modCount_b1 := F_modCount_b1.keep K6 nin0
  replace F_elementData_b1 := F_elementData_b1.keep K6 nin0
  replace F_size_b1 := F_size_b1.keep K6 nin0
  replace OZ := OZ.keep K6 all0
  replace K0 := K0.trans K6 all0
  replace Z0 := Nat.le_trans Z0 K6.1
  have E_b6_0 := E_b6_0'
  have F_this_0_b6_0 := F_this_0_b6_0'
  have F_lastRet_b6_0 := F_lastRet_b6_0'
  have F_expectedModCount_b6_0 := F_expectedModCount_b6_0'
  have F_cursor_b6_0 := F_cursor_b6_0'
  refine oG X6 H r21_17_18 19 (lA14_ o0 o1 b1 b6_0) [(.ref b6_0)] ?_
  refine ocF X6 H (wb22_ hw) (rm24_56 hw Z0 F_this_0_b6_0 F_cursor_b6_0 (F_size_o3.keep K0 nin0) hp0) (rfl : T6.heap = _) 0 b6_0 E_b6_0 [] [] pd_19 d21_19 fun T8 _ _ X8 hQ8 => ?_
  obtain ⟨rfl, N8, e8⟩ := hQ8
  replace N0 := Fr.app N0 N8
  refine oIN X8 H oD0 d21_24 (lA14_ o0 o1 b1 b6_0) [] rfl ((if0 _ _).trans (feq (by decide : ¬ ((1 : Int32) = (0 : Int32)))).1) ?_
  refine oH X8 H r21_27_27 28 [(.ref b6_0)] ?_
  refine ocF X8 H (wb32_ hw) (rm25_67 hw Z0 g_b6_0 E_b6_0 F_this_0_b6_0 F_lastRet_b6_0 F_expectedModCount_b6_0 F_cursor_b6_0 (F_modCount_o3.keep K0 nin0) (F_elementData_o3.keep K0 nin0) (F_size_o3.keep K0 nin0) (V_o4.keep K0 nin0) (oNl F_modCount_o3.lt sz_b6_0) hp1) e8 0 b6_0 E_b6_0 [] [] pd_20 d21_28 fun T10 _ _ X10 hQ10 => ?_
  obtain ⟨rfl, N10, K10, E_b6_0', F_this_0_b6_0', F_lastRet_b6_0', F_expectedModCount_b6_0', F_cursor_b6_0'⟩ := hQ10
  replace N0 := Fr.app N0 N10
  replace E_b1 := E_b1.keep K10
  replace F_modCount_b1 := F_modCount_b1.keep K10 (ninS ne_b1_b6_0 nin0)
  replace F_elementData_b1 := F_elementData_b1.keep K10 (ninS ne_b1_b6_0 nin0)
  replace F_size_b1 := F_size_b1.keep K10 (ninS ne_b1_b6_0 nin0)
  replace OZ := OZ.keep K10 (allS g_b6_0 all0)
  replace K0 := K0.trans K10 (allS (Or.inr sz_b6_0) all0)
  replace Z0 := Nat.le_trans Z0 K10.1
  replace E_b6_0 := E_b6_0'
  have F_this_0_b6_0 := F_this_0_b6_0'
  have F_lastRet_b6_0 := F_lastRet_b6_0'
  have F_expectedModCount_b6_0 := F_expectedModCount_b6_0'
  have F_cursor_b6_0 := F_cursor_b6_0'
  refine oKst X10 H (hV hw 187) rfl (Ins.self (E_o5.keep K0)) d21_33 fun T11 X11 e11 => ?_
  refine oG X11 H r21_36_38 40 (lA15_ o0 o1 b1 b6_0 o5) [(.ref o5)] ?_
  refine ocV X11 H (wb33_ hw) (rm27_59 hw Z0 (F_name_o5.keep K0 nin0)) e11 0 o5 (E_o5.keep K0) [] [] pd_21 d21_40 fun T13 _ _ X13 hQ13 => ?_
  obtain ⟨rfl, N13, e13⟩ := hQ13
  replace N0 := Fr.app N0 N13
  refine oG X13 H r21_43_43 44 (lA15_ o0 o1 b1 b6_0 o5) [(.ref o1), (.ref o7)] ?_
  refine ocV X13 H (wb34_ hw) (rm28_ne hw Z0 OZ S_COMPACT_STRINGS hp3 (T_o7.keep K0) (T_o1.keep K0) ne_o7_o1 hp2) e13 0 o7 (own_Str.exa (T_o7.keep K0)) [(.ref o1)] [] pd_10 d21_44 fun T15 _ _ X15 hQ15 => ?_
  obtain ⟨rfl, N15, e15⟩ := hQ15
  replace N0 := Fr.app N0 N15
  refine oIY X15 H oD0 d21_47 62 (lA15_ o0 o1 b1 b6_0 o5) [] rfl ((if0 _ _).trans (teq (by decide : (0 : Int32) = (0 : Int32))).1) ?_
  refine oH X15 H r21_62_18 19 [(.ref b6_0)] ?_
  refine ocF X15 H (wb22_ hw) (rm24_56 hw Z0 F_this_0_b6_0 F_cursor_b6_0 (F_size_o3.keep K0 nin0) hp4) e15 0 b6_0 E_b6_0 [] [] pd_19 d21_19 fun T17 _ _ X17 hQ17 => ?_
  obtain ⟨rfl, N17, e17⟩ := hQ17
  replace N0 := Fr.app N0 N17
  refine oIN X17 H oD0 d21_24 (lA15_ o0 o1 b1 b6_0 o5) [] rfl ((if0 _ _).trans (feq (by decide : ¬ ((1 : Int32) = (0 : Int32)))).1) ?_
  refine oH X17 H r21_27_27 28 [(.ref b6_0)] ?_
  refine ocF X17 H (wb32_ hw) (rm25_68 hw Z0 g_b6_0 E_b6_0 F_this_0_b6_0 F_lastRet_b6_0 F_expectedModCount_b6_0 F_cursor_b6_0 (F_modCount_o3.keep K0 nin0) (F_elementData_o3.keep K0 nin0) (F_size_o3.keep K0 nin0) (V_o4.keep K0 nin0) (oNl F_modCount_o3.lt sz_b6_0) hp5) e17 0 b6_0 E_b6_0 [] [] pd_20 d21_28 fun T19 _ _ X19 hQ19 => ?_
  obtain ⟨rfl, N19, K19, E_b6_0', F_this_0_b6_0', _, _, F_cursor_b6_0'⟩ := hQ19
  replace N0 := Fr.app N0 N19
  replace E_b1 := E_b1.keep K19
  replace F_modCount_b1 := F_modCount_b1.keep K19 (ninS ne_b1_b6_0 nin0)
  replace F_elementData_b1 := F_elementData_b1.keep K19 (ninS ne_b1_b6_0 nin0)
  replace F_size_b1 := F_size_b1.keep K19 (ninS ne_b1_b6_0 nin0)
  replace OZ := OZ.keep K19 (allS g_b6_0 all0)
  replace K0 := K0.trans K19 (allS (Or.inr sz_b6_0) all0)
  replace Z0 := Nat.le_trans Z0 K19.1
  replace E_b6_0 := E_b6_0'
  have F_this_0_b6_0 := F_this_0_b6_0'
  have F_cursor_b6_0 := F_cursor_b6_0'
  refine oKst X19 H (hV hw 187) rfl (Ins.self (E_o6.keep K0)) d21_33 fun T20 X20 e20 => ?_
  refine oG X20 H r21_36_38 40 (lA15_ o0 o1 b1 b6_0 o6) [(.ref o6)] ?_
  refine ocV X20 H (wb33_ hw) (rm27_59 hw Z0 (F_name_o6.keep K0 nin0)) e20 0 o6 (E_o6.keep K0) [] [] pd_21 d21_40 fun T22 _ _ X22 hQ22 => ?_
  obtain ⟨rfl, N22, e22⟩ := hQ22
  replace N0 := Fr.app N0 N22
  refine oG X22 H r21_43_43 44 (lA15_ o0 o1 b1 b6_0 o6) [(.ref o1), (.ref o9)] ?_
  refine ocV X22 H (wb34_ hw) (rm28_eq hw Z0 OZ S_COMPACT_STRINGS hp3 (T_o9.keep K0) (T_o1.keep K0) ne_o9_o1 hp6) e22 0 o9 (own_Str.exa (T_o9.keep K0)) [(.ref o1)] [] pd_10 d21_44 fun T24 _ _ X24 hQ24 => ?_
  obtain ⟨rfl, N24, e24⟩ := hQ24
  replace N0 := Fr.app N0 N24
  refine oIN X24 H oD0 d21_47 (lA15_ o0 o1 b1 b6_0 o6) [] rfl ((if0 _ _).trans (feq (by decide : ¬ ((1 : Int32) = (0 : Int32)))).1) ?_
  refine oH X24 H r21_50_51 53 [(.ref o6), (.ref b1)] ?_
  refine ocV X24 H (wb35_ hw) (rm31_60 hw Z0 (F_value_o6.keep K0 nin0)) e24 1 o6 (E_o6.keep K0) [] [(.ref b1)] pd_20 d21_53 fun T26 _ _ X26 hQ26 => ?_
  obtain ⟨rfl, N26, e26⟩ := hQ26
  replace N0 := Fr.app N0 N26
  refine ocF X26 H (wb36_ hw) (rm15_62 hw Z0 g_b1 E_b1 F_modCount_b1 F_elementData_b1 F_size_b1 (E_o10.keep K0) (V_o2.keep K0 nin0) S_DEFAULTCAPACITY_EMPTY_ELEMENTDATA OZ) e26 0 b1 E_b1 [(.ref o10)] [] pd_10 d21_56 fun T28 _ _ X28 hQ28 => ?_
  obtain ⟨b28_0, k28_1, rfl, N28, K28, E_b1', F_modCount_b1', F_elementData_b1', F_size_b1', V_b28_0', Ov_k28_1', sz_b28_0'⟩ := hQ28
  replace N0 := Fr.app N0 N28
  have sz_b28_0 := Nat.le_trans K0.1 sz_b28_0'
  have ne_b1_b28_0 := oNl E_b1.lt sz_b28_0'
  replace E_b6_0 := E_b6_0.keep K28
  replace F_this_0_b6_0 := F_this_0_b6_0.keep K28 (ninS (Ne.symm ne_b1_b6_0) nin0)
  replace F_cursor_b6_0 := F_cursor_b6_0.keep K28 (ninS (Ne.symm ne_b1_b6_0) nin0)
  replace K0 := K0.trans K28 (allS (Or.inr sz_b1) all0)
  replace Z0 := Nat.le_trans Z0 K28.1
  replace E_b1 := E_b1'
  have F_modCount_b1 : Fld Z T28.heap b1 c4_ "modCount" "I" (.int (1 : Int32)) := F_modCount_b1'
  have F_elementData_b1 := F_elementData_b1'
  have F_size_b1 := F_size_b1'
  have V_b28_0 := V_b28_0'
  have Ov_k28_1 := Ov_k28_1'
  refine oB_ (tF_ T28 (mkF m 62 (lA15_ o0 o1 b1 b6_0 o6) [])) (fun t k => ?_) ?_
  · refine XS.pop X28.here hx rfl (hb hby d21_61) rfl rfl ?_
    exact k
  refine oH X28 H r21_62_18 19 [(.ref b6_0)] ?_
  refine ocF X28 H (wb22_ hw) (rm24_48 hw Z0 F_this_0_b6_0 F_cursor_b6_0 (F_size_o3.keep K0 nin0) hp7) (rfl : T28.heap = _) 0 b6_0 E_b6_0 [] [] pd_19 d21_19 fun T30 _ _ X30 hQ30 => ?_
  obtain ⟨rfl, N30, e30⟩ := hQ30
  replace N0 := Fr.app N0 N30
  refine oIY X30 H oD0 d21_24 65 (lA15_ o0 o1 b1 b6_0 o6) [] rfl ((if0 _ _).trans (teq (by decide : (0 : Int32) = (0 : Int32))).1) ?_
  refine oH X30 H r21_65_65 66 [(.ref b1)] ?_
  exact own_retR X30 Blk hx Bret rfl rfl rfl (hb hby d21_66) (by
      try rw [show T30.heap = T28.heap from e30]
      exact ⟨b1, b28_0, k28_1, rfl, N0, K0, E_b1, F_modCount_b1, F_elementData_b1, F_size_b1, V_b28_0, Ov_k28_1, sz_b1, sz_b28_0, ne_b1_b28_0⟩) dE_ dE_

set_option maxRecDepth 65536 in
set_option maxHeartbeats 40000000 in
theorem rm21_74 (hw : oW_ a0 Z) (Z0 : n0 ≤ h0.size) (F_members_o0 : Fld Z h0 o0 c7_ "members" c19_ (.ref o3)) (T_o1 : own_Str Z h0 o1 l0) (E_o3 : Exa Z h0 o3 c0_) (F_modCount_o3 : Fld Z h0 o3 c4_ "modCount" "I" (.int i0)) (F_elementData_o3 : Fld Z h0 o3 c0_ "elementData" c3_ (.ref o4)) (F_size_o3 : Fld Z h0 o3 c0_ "size" "I" (.int i1)) (V_o4 : Arv Z h0 o4 k1 (.object c1_) (10 : Int32) [(.ref o5), (.ref o6)] .null) (E_o5 : Exa Z h0 o5 c6_) (F_name_o5 : Fld Z h0 o5 c6_ "name" c9_ (.ref o7)) (E_o6 : Exa Z h0 o6 c6_) (F_name_o6 : Fld Z h0 o6 c6_ "name" c9_ (.ref o9)) (T_o7 : own_Str Z h0 o7 l1) (T_o9 : own_Str Z h0 o9 l2) (S_DEFAULTCAPACITY_EMPTY_ELEMENTDATA : Sta Z Z.heap c0_ c15_ c3_ (.ref o2)) (S_COMPACT_STRINGS : Sta Z Z.heap c2_ c13_ "Z" (.int i2)) (OZ : Old Z n0 h0) (hp0 : ¬ ((0 : Int32) = i1)) (hp1 : (0 : Int32) < i1) (hp2 : ¬ (l1 = l0)) (hp3 : ¬ (i2 = (0 : Int32))) (ne_o7_o1 : o7 ≠ o1) (hp4 : ¬ ((1 : Int32) = i1)) (hp5 : (1 : Int32) < i1) (hp6 : ¬ (l2 = l0)) (ne_o9_o1 : o9 ≠ o1) (hp7 : (2 : Int32) = i1) :
    oM l y13_ prog_24_method_2_code 5 (some (.object c12_)) ws (rM_ 4 2 7 49) #[(.ref o0), (.ref o1)] Z h0 (fun v h L => ∃ b1 : Addr, v = some (.ref b1) ∧ Fr n0 L ∧ Keep h0 h [] ∧ Exa Z h b1 c0_ ∧ Fld Z h b1 c4_ "modCount" "I" oZ ∧ Fld Z h b1 c0_ "elementData" c3_ (.ref o2) ∧ Fld Z h b1 c0_ "size" "I" oZ ∧ h0.size ≤ b1) := by
  refine own_body c7_ (plainFor_of_name pn_21) (fun m => ef_21 m o0 o1) fun p e s m below meth c s₁ X0 H hnm Bret Blk e0 => ?_
  obtain ⟨hx, _, _, _, hby⟩ := id H
  have N0 := Fr.nil n0
  have K0 : Keep h0 h0 [] := Keep.refl h0 _
  refine oNw X0 H (hV hw 136) (hV hw 48) (hV hw 49) e0 d21_0 fun T1 h1 b1 X1 e1 E1 u1 E_b1 D1 => ?_
  have g_b1 := Nat.le_trans Z0 u1
  have sz_b1 := Nat.le_trans K0.1 u1
  replace OZ := OZ.ext E1
  replace K0 := K0.ext E1
  replace Z0 := Nat.le_trans Z0 E1.1
  have F_modCount_b1 : Fld Z h1 b1 c4_ "modCount" "I" oZ := D1 (Or.inl (hV hw 67)) (ty := .int) dE_
  have F_elementData_b1 : Fld Z h1 b1 c0_ "elementData" c3_ .null := D1 (Or.inl (hV hw 70)) (ty := (.array (.object c1_))) dE_
  have F_size_b1 : Fld Z h1 b1 c0_ "size" "I" oZ := D1 (Or.inl (hV hw 99)) (ty := .int) dE_
  refine oG X1 H r21_3_3 4 (lA12_ o0 o1) [(.ref b1), (.ref b1)] ?_
  refine ocI X1 H (wb19_ hw) (rm10_43 hw Z0 g_b1 E_b1 F_modCount_b1 F_elementData_b1 F_size_b1 S_DEFAULTCAPACITY_EMPTY_ELEMENTDATA OZ) e1 1 b1 [] [(.ref b1)] pd_3 d21_4 fun T3 _ _ X3 hQ3 => ?_
  obtain ⟨rfl, N3, K3, E_b1', F_modCount_b1', F_elementData_b1', F_size_b1'⟩ := hQ3
  replace N0 := Fr.app N0 N3
  replace OZ := OZ.keep K3 (allS g_b1 all0)
  replace K0 := K0.trans K3 (allS (Or.inr sz_b1) all0)
  replace Z0 := Nat.le_trans Z0 K3.1
  replace E_b1 := E_b1'
  have F_modCount_b1 := F_modCount_b1'
  have F_elementData_b1 := F_elementData_b1'
  have F_size_b1 := F_size_b1'
  refine oG X3 H r21_7_8 9 (lA13_ o0 o1 b1) [(.ref o0)] ?_
  refine oGf X3 H (hV hw 129) rfl (F_members_o0.keep K0 nin0) d21_9 fun T4 X4 e4 => ?_
  refine ocF X4 H (wb21_ hw) (rm22_47 hw Z0 (F_modCount_o3.keep K0 nin0)) e4 0 o3 (E_o3.keep K0) [] [] pd_17 d21_12 fun T6 _ _ X6 hQ6 => ?_
  obtain ⟨b6_0, rfl, N6, K6, E_b6_0', F_this_0_b6_0', F_lastRet_b6_0', F_expectedModCount_b6_0', F_cursor_b6_0', sz_b6_0'⟩ := hQ6
  replace N0 := Fr.app N0 N6
  have g_b6_0 := Nat.le_trans Z0 sz_b6_0'
  have sz_b6_0 := Nat.le_trans K0.1 sz_b6_0'
  have ne_b1_b6_0 := oNl E_b1.lt sz_b6_0'
  replace E_b1 := E_b1.keep K6
  replace F_modCount_b1 := F_modCount_b1.keep K6 nin0
  replace F_elementData_b1 := F_elementData_b1.keep K6 nin0
  replace F_size_b1 := F_size_b1.keep K6 nin0
  replace OZ := OZ.keep K6 all0
  replace K0 := K0.trans K6 all0
  replace Z0 := Nat.le_trans Z0 K6.1
  have E_b6_0 := E_b6_0'
  have F_this_0_b6_0 := F_this_0_b6_0'
  have F_lastRet_b6_0 := F_lastRet_b6_0'
  have F_expectedModCount_b6_0 := F_expectedModCount_b6_0'
  have F_cursor_b6_0 := F_cursor_b6_0'
  refine oG X6 H r21_17_18 19 (lA14_ o0 o1 b1 b6_0) [(.ref b6_0)] ?_
  refine ocF X6 H (wb22_ hw) (rm24_56 hw Z0 F_this_0_b6_0 F_cursor_b6_0 (F_size_o3.keep K0 nin0) hp0) (rfl : T6.heap = _) 0 b6_0 E_b6_0 [] [] pd_19 d21_19 fun T8 _ _ X8 hQ8 => ?_
  obtain ⟨rfl, N8, e8⟩ := hQ8
  replace N0 := Fr.app N0 N8
  refine oIN X8 H oD0 d21_24 (lA14_ o0 o1 b1 b6_0) [] rfl ((if0 _ _).trans (feq (by decide : ¬ ((1 : Int32) = (0 : Int32)))).1) ?_
  refine oH X8 H r21_27_27 28 [(.ref b6_0)] ?_
  refine ocF X8 H (wb32_ hw) (rm25_67 hw Z0 g_b6_0 E_b6_0 F_this_0_b6_0 F_lastRet_b6_0 F_expectedModCount_b6_0 F_cursor_b6_0 (F_modCount_o3.keep K0 nin0) (F_elementData_o3.keep K0 nin0) (F_size_o3.keep K0 nin0) (V_o4.keep K0 nin0) (oNl F_modCount_o3.lt sz_b6_0) hp1) e8 0 b6_0 E_b6_0 [] [] pd_20 d21_28 fun T10 _ _ X10 hQ10 => ?_
  obtain ⟨rfl, N10, K10, E_b6_0', F_this_0_b6_0', F_lastRet_b6_0', F_expectedModCount_b6_0', F_cursor_b6_0'⟩ := hQ10
  replace N0 := Fr.app N0 N10
  replace E_b1 := E_b1.keep K10
  replace F_modCount_b1 := F_modCount_b1.keep K10 (ninS ne_b1_b6_0 nin0)
  replace F_elementData_b1 := F_elementData_b1.keep K10 (ninS ne_b1_b6_0 nin0)
  replace F_size_b1 := F_size_b1.keep K10 (ninS ne_b1_b6_0 nin0)
  replace OZ := OZ.keep K10 (allS g_b6_0 all0)
  replace K0 := K0.trans K10 (allS (Or.inr sz_b6_0) all0)
  replace Z0 := Nat.le_trans Z0 K10.1
  replace E_b6_0 := E_b6_0'
  have F_this_0_b6_0 := F_this_0_b6_0'
  have F_lastRet_b6_0 := F_lastRet_b6_0'
  have F_expectedModCount_b6_0 := F_expectedModCount_b6_0'
  have F_cursor_b6_0 := F_cursor_b6_0'
  refine oKst X10 H (hV hw 187) rfl (Ins.self (E_o5.keep K0)) d21_33 fun T11 X11 e11 => ?_
  refine oG X11 H r21_36_38 40 (lA15_ o0 o1 b1 b6_0 o5) [(.ref o5)] ?_
  refine ocV X11 H (wb33_ hw) (rm27_59 hw Z0 (F_name_o5.keep K0 nin0)) e11 0 o5 (E_o5.keep K0) [] [] pd_21 d21_40 fun T13 _ _ X13 hQ13 => ?_
  obtain ⟨rfl, N13, e13⟩ := hQ13
  replace N0 := Fr.app N0 N13
  refine oG X13 H r21_43_43 44 (lA15_ o0 o1 b1 b6_0 o5) [(.ref o1), (.ref o7)] ?_
  refine ocV X13 H (wb34_ hw) (rm28_ne hw Z0 OZ S_COMPACT_STRINGS hp3 (T_o7.keep K0) (T_o1.keep K0) ne_o7_o1 hp2) e13 0 o7 (own_Str.exa (T_o7.keep K0)) [(.ref o1)] [] pd_10 d21_44 fun T15 _ _ X15 hQ15 => ?_
  obtain ⟨rfl, N15, e15⟩ := hQ15
  replace N0 := Fr.app N0 N15
  refine oIY X15 H oD0 d21_47 62 (lA15_ o0 o1 b1 b6_0 o5) [] rfl ((if0 _ _).trans (teq (by decide : (0 : Int32) = (0 : Int32))).1) ?_
  refine oH X15 H r21_62_18 19 [(.ref b6_0)] ?_
  refine ocF X15 H (wb22_ hw) (rm24_56 hw Z0 F_this_0_b6_0 F_cursor_b6_0 (F_size_o3.keep K0 nin0) hp4) e15 0 b6_0 E_b6_0 [] [] pd_19 d21_19 fun T17 _ _ X17 hQ17 => ?_
  obtain ⟨rfl, N17, e17⟩ := hQ17
  replace N0 := Fr.app N0 N17
  refine oIN X17 H oD0 d21_24 (lA15_ o0 o1 b1 b6_0 o5) [] rfl ((if0 _ _).trans (feq (by decide : ¬ ((1 : Int32) = (0 : Int32)))).1) ?_
  refine oH X17 H r21_27_27 28 [(.ref b6_0)] ?_
  refine ocF X17 H (wb32_ hw) (rm25_68 hw Z0 g_b6_0 E_b6_0 F_this_0_b6_0 F_lastRet_b6_0 F_expectedModCount_b6_0 F_cursor_b6_0 (F_modCount_o3.keep K0 nin0) (F_elementData_o3.keep K0 nin0) (F_size_o3.keep K0 nin0) (V_o4.keep K0 nin0) (oNl F_modCount_o3.lt sz_b6_0) hp5) e17 0 b6_0 E_b6_0 [] [] pd_20 d21_28 fun T19 _ _ X19 hQ19 => ?_
  obtain ⟨rfl, N19, K19, E_b6_0', F_this_0_b6_0', _, _, F_cursor_b6_0'⟩ := hQ19
  replace N0 := Fr.app N0 N19
  replace E_b1 := E_b1.keep K19
  replace F_modCount_b1 := F_modCount_b1.keep K19 (ninS ne_b1_b6_0 nin0)
  replace F_elementData_b1 := F_elementData_b1.keep K19 (ninS ne_b1_b6_0 nin0)
  replace F_size_b1 := F_size_b1.keep K19 (ninS ne_b1_b6_0 nin0)
  replace OZ := OZ.keep K19 (allS g_b6_0 all0)
  replace K0 := K0.trans K19 (allS (Or.inr sz_b6_0) all0)
  replace Z0 := Nat.le_trans Z0 K19.1
  replace E_b6_0 := E_b6_0'
  have F_this_0_b6_0 := F_this_0_b6_0'
  have F_cursor_b6_0 := F_cursor_b6_0'
  refine oKst X19 H (hV hw 187) rfl (Ins.self (E_o6.keep K0)) d21_33 fun T20 X20 e20 => ?_
  refine oG X20 H r21_36_38 40 (lA15_ o0 o1 b1 b6_0 o6) [(.ref o6)] ?_
  refine ocV X20 H (wb33_ hw) (rm27_59 hw Z0 (F_name_o6.keep K0 nin0)) e20 0 o6 (E_o6.keep K0) [] [] pd_21 d21_40 fun T22 _ _ X22 hQ22 => ?_
  obtain ⟨rfl, N22, e22⟩ := hQ22
  replace N0 := Fr.app N0 N22
  refine oG X22 H r21_43_43 44 (lA15_ o0 o1 b1 b6_0 o6) [(.ref o1), (.ref o9)] ?_
  refine ocV X22 H (wb34_ hw) (rm28_ne hw Z0 OZ S_COMPACT_STRINGS hp3 (T_o9.keep K0) (T_o1.keep K0) ne_o9_o1 hp6) e22 0 o9 (own_Str.exa (T_o9.keep K0)) [(.ref o1)] [] pd_10 d21_44 fun T24 _ _ X24 hQ24 => ?_
  obtain ⟨rfl, N24, e24⟩ := hQ24
  replace N0 := Fr.app N0 N24
  refine oIY X24 H oD0 d21_47 62 (lA15_ o0 o1 b1 b6_0 o6) [] rfl ((if0 _ _).trans (teq (by decide : (0 : Int32) = (0 : Int32))).1) ?_
  refine oH X24 H r21_62_18 19 [(.ref b6_0)] ?_
  refine ocF X24 H (wb22_ hw) (rm24_48 hw Z0 F_this_0_b6_0 F_cursor_b6_0 (F_size_o3.keep K0 nin0) hp7) e24 0 b6_0 E_b6_0 [] [] pd_19 d21_19 fun T26 _ _ X26 hQ26 => ?_
  obtain ⟨rfl, N26, e26⟩ := hQ26
  replace N0 := Fr.app N0 N26
  refine oIY X26 H oD0 d21_24 65 (lA15_ o0 o1 b1 b6_0 o6) [] rfl ((if0 _ _).trans (teq (by decide : (0 : Int32) = (0 : Int32))).1) ?_
  refine oH X26 H r21_65_65 66 [(.ref b1)] ?_
  exact own_retR X26 Blk hx Bret rfl rfl rfl (hb hby d21_66) (by
      try rw [show T26.heap = T19.heap from e26]
      exact ⟨b1, rfl, N0, K0, E_b1, F_modCount_b1, F_elementData_b1, F_size_b1, sz_b1⟩) dE_ dE_

set_option maxRecDepth 65536 in
set_option maxHeartbeats 40000000 in
theorem rm16_75 (hw : oW_ a0 Z) (Z0 : n0 ≤ h0.size) (g_o0 : n0 ≤ o0) (E_o0 : Exa Z h0 o0 c0_) (F_modCount_o0 : Fld Z h0 o0 c4_ "modCount" "I" (.int i0)) (F_elementData_o0 : Fld Z h0 o0 c0_ "elementData" c3_ (.ref o2)) (F_size_o0 : Fld Z h0 o0 c0_ "size" "I" (.int i1)) (E_o1 : Exa Z h0 o1 c6_) (g_o2 : n0 ≤ o2) (V_o2 : Arv Z h0 o2 k0 (.object c1_) (10 : Int32) [(.ref o6), (.ref o7)] .null) (Ov_k0 : Ovr Z k0 c1_) :
    oM l y14_ jdk_38_method_24_code 4 none ws (rM_ 0 0 0 0) #[(.ref o0), (.ref o1), (.ref o2), (.int (2 : Int32))] Z h0 (fun v h L => v = none ∧ Fr n0 L ∧ Keep h0 h [o2, o0] ∧ Arv Z h o2 k0 (.object c1_) (10 : Int32) [(.ref o6), (.ref o7), (.ref o1)] .null ∧ Exa Z h o0 c0_ ∧ Fld Z h o0 c4_ "modCount" "I" (.int i0) ∧ Fld Z h o0 c0_ "elementData" c3_ (.ref o2) ∧ Fld Z h o0 c0_ "size" "I" (.int (3 : Int32))) := by
  refine own_body c0_ (plainFor_of_name pn_16) (fun m => ef_16 m o0 o1 o2 (2 : Int32)) fun p e s m below meth c s₁ X0 H hnm Bret Blk e0 => ?_
  obtain ⟨hx, hZ, hown, _, hby⟩ := id H
  have N0 := Fr.nil n0
  have K0 : Keep h0 h0 [o2, o0] := Keep.refl h0 _
  refine oG X0 H r16_0_1 2 #[rv o0, rv o1, rv o2, iv (2 : Int32)] [(.ref o2), (.int (2 : Int32))] ?_
  refine oLen X0 H e0 V_o2 d16_2 ?_
  refine oCY X0 H oD0 d16_3 11 #[rv o0, rv o1, rv o2, iv (2 : Int32)] [] rfl (feq (by decide : ¬ ((2 : Int32) = (10 : Int32)))).2 ?_
  refine oH X0 H r16_11_13 14 [(.ref o1), (.int (2 : Int32)), (.ref o2)] ?_
  replace V_o2 : Arv Z h0 o2 k0 (.object c1_) (10 : Int32) [(.ref o6), (.ref o7), .null] .null := V_o2.pad (pad_rep [(.ref o6), (.ref o7)] .null 1)
  have nx1 : o0 ≠ o2 := (own_nev E_o0 (hV hw 48) V_o2)
  obtain ⟨cl1, Ar1, q1, S1, N1, H1, G1⟩ := id V_o2
  have hin1 : ¬ ((2 : Int32) < 0 ∨ cl1.slots.size ≤ ((2 : Int32)).toNatClampNeg) := inb_of S1 ⟨by decide, by decide⟩
  refine own_c2 (stR X0 hx hZ e0 Ar1 (j := (2 : Int32)) hin1 rfl (Sto.ofV Ar1 q1 Ov_k0 (Ins.of_exa E_o1 (hV hw 121))) rfl rfl (hb hby d16_14)) fun T1 h1 X1 e1 W1 => ?_
  replace V_o2 : Arv Z h1 o2 k0 (.object c1_) (10 : Int32) [(.ref o6), (.ref o7), (.ref o1)] .null := Arv.set Ar1 q1 S1 N1 H1 G1 rfl W1 2 rfl nB_
  replace E_o0 := E_o0.wr W1
  replace F_modCount_o0 := F_modCount_o0.other W1 (Or.inl nx1)
  replace F_elementData_o0 := F_elementData_o0.other W1 (Or.inl nx1)
  replace F_size_o0 := F_size_o0.other W1 (Or.inl nx1)
  replace K0 := K0.wr W1 (Or.inl (List.mem_of_getElem? (i := 0) rfl))
  replace N0 := Fr.snoc X1 N0 g_o2
  refine oG X1 H r16_15_17 18 #[rv o0, rv o1, rv o2, iv (2 : Int32)] [(.int (1 : Int32)), (.int (2 : Int32)), (.ref o0)] ?_
  refine oB_ (tF_ T1 (mkF m 19 #[rv o0, rv o1, rv o2, iv (2 : Int32)] [(.int (3 : Int32)), (.ref o0)])) (fun t k => ?_) ?_
  · refine XS.iadd X1.here hx rfl (hb hby d16_18) rfl ?_
    exact k
  refine own_c2 (putF X1 hx hZ hown (host := "") (Or.inl (hV hw 98)) Via.refl e1 F_size_o0 E_o0 (Or.inl (hV hw 99)) (hV hw 48) (ty := .int) dE_ rfl rfl rfl rfl (hb hby d16_19)) fun T2 h2 X2 e2 W2 => ?_
  replace F_size_o0 := F_size_o0.same W2
  replace E_o0 := E_o0.wr W2
  replace F_modCount_o0 := F_modCount_o0.other W2 (Or.inr (sn17 hw))
  replace F_elementData_o0 := F_elementData_o0.other W2 (Or.inr (sn18 hw))
  replace V_o2 := V_o2.other W2 (Ne.symm nx1)
  replace K0 := K0.wr W2 (Or.inl (List.mem_of_getElem? (i := 1) rfl))
  replace N0 := Fr.snoc X2 N0 g_o0
  show own_Go p e below _ (T2.setTop (mkF m 22 #[rv o0, rv o1, rv o2, iv (2 : Int32)] []))
  exact own_retV X2 Blk hx Bret (hb hby d16_22) (by
      try rw [show T2.heap = h2 from e2]
      exact ⟨rfl, N0, K0, V_o2, E_o0, F_modCount_o0, F_elementData_o0, F_size_o0⟩) dE_ dE_

set_option maxRecDepth 65536 in
set_option maxHeartbeats 40000000 in
theorem rm15_76 (hw : oW_ a0 Z) (Z0 : n0 ≤ h0.size) (g_o0 : n0 ≤ o0) (E_o0 : Exa Z h0 o0 c0_) (F_modCount_o0 : Fld Z h0 o0 c4_ "modCount" "I" (.int i0)) (F_elementData_o0 : Fld Z h0 o0 c0_ "elementData" c3_ (.ref o3)) (F_size_o0 : Fld Z h0 o0 c0_ "size" "I" (.int (2 : Int32))) (E_o1 : Exa Z h0 o1 c6_) (g_o3 : n0 ≤ o3) (V_o3 : Arv Z h0 o3 k1 (.object c1_) (10 : Int32) [(.ref o6), (.ref o7)] .null) (Ov_k1 : Ovr Z k1 c1_) :
    oM l y15_ jdk_38_method_25_code 2 (some .boolean) ws (rM_ 1 0 0 15) #[(.ref o0), (.ref o1)] Z h0 (fun v h L => v = some (.int (1 : Int32)) ∧ Fr n0 L ∧ Keep h0 h [o0, o3] ∧ Exa Z h o0 c0_ ∧ Fld Z h o0 c4_ "modCount" "I" (.int (i0 + (1 : Int32))) ∧ Fld Z h o0 c0_ "elementData" c3_ (.ref o3) ∧ Fld Z h o0 c0_ "size" "I" (.int (3 : Int32)) ∧ Arv Z h o3 k1 (.object c1_) (10 : Int32) [(.ref o6), (.ref o7), (.ref o1)] .null) := by
  refine own_body c0_ (plainFor_of_name pn_15) (fun m => ef_15 m o0 o1) fun p e s m below meth c s₁ X0 H hnm Bret Blk e0 => ?_
  obtain ⟨hx, hZ, hown, _, hby⟩ := id H
  have N0 := Fr.nil n0
  have K0 : Keep h0 h0 [o0, o3] := Keep.refl h0 _
  refine oG X0 H r15_0_1 2 #[rv o0, rv o1] [(.ref o0), (.ref o0)] ?_
  refine oGF X0 H (host := "") (Or.inl (hV hw 96)) (Via.of (hV hw 97)) e0 F_modCount_o0 d15_2 fun T1 X1 e1 => ?_
  refine oG X1 H r15_5_5 6 #[rv o0, rv o1] [(.int (1 : Int32)), (.int i0), (.ref o0)] ?_
  refine oB_ (tF_ T1 (mkF m 7 #[rv o0, rv o1] [(.int (i0 + (1 : Int32))), (.ref o0)])) (fun t k => ?_) ?_
  · refine XS.iadd X1.here hx rfl (hb hby d15_6) rfl ?_
    exact k
  refine own_c2 (putF X1 hx hZ hown (host := "") (Or.inl (hV hw 96)) (Via.of (hV hw 97)) e1 F_modCount_o0 E_o0 (Or.inl (hV hw 67)) (hV hw 48) (ty := .int) dE_ rfl rfl rfl rfl (hb hby d15_7)) fun T2 h2 X2 e2 W2 => ?_
  replace F_modCount_o0 := F_modCount_o0.same W2
  have nx1 : o3 ≠ o0 := (Ne.symm (own_nev E_o0 (hV hw 48) V_o3))
  replace E_o0 := E_o0.wr W2
  replace F_elementData_o0 := F_elementData_o0.other W2 (Or.inr (sn2 hw))
  replace F_size_o0 := F_size_o0.other W2 (Or.inr (sn3 hw))
  replace V_o3 := V_o3.other W2 nx1
  replace K0 := K0.wr W2 (Or.inl (List.mem_of_getElem? (i := 0) rfl))
  replace Z0 := Nat.le_trans Z0 (Keep.of_wr W2).1
  replace N0 := Fr.snoc X2 N0 g_o0
  refine oG X2 H r15_10_12 13 #[rv o0, rv o1] [(.ref o0), (.ref o1), (.ref o0)] ?_
  refine oGf X2 H (hV hw 69) e2 F_elementData_o0 d15_13 fun T3 X3 e3 => ?_
  refine oG X3 H r15_16_16 17 #[rv o0, rv o1] [(.ref o0), (.ref o3), (.ref o1), (.ref o0)] ?_
  refine oGf X3 H (hV hw 98) e3 F_size_o0 d15_17 fun T4 X4 e4 => ?_
  refine ocP X4 H (wb29_ hw) (rm16_75 hw Z0 g_o0 E_o0 F_modCount_o0 F_elementData_o0 F_size_o0 (E_o1.keep K0) g_o3 V_o3 Ov_k1) e4 0 o0 E_o0 [(.ref o1), (.ref o3), (.int (2 : Int32))] [] pd_11 d15_20 fun T6 _ _ X6 hQ6 => ?_
  obtain ⟨rfl, N6, K6, V_o3', E_o0', F_modCount_o0', F_elementData_o0', F_size_o0'⟩ := hQ6
  replace N0 := Fr.app N0 N6
  replace K0 := K0.trans K6 (allS (Or.inl (List.mem_of_getElem? (i := 1) rfl)) (allS (Or.inl (List.mem_of_getElem? (i := 0) rfl)) all0))
  have V_o3 := V_o3'
  replace E_o0 := E_o0'
  have F_modCount_o0 := F_modCount_o0'
  have F_elementData_o0 := F_elementData_o0'
  have F_size_o0 := F_size_o0'
  refine oG X6 H r15_23_23 24 #[rv o0, rv o1] [(.int (1 : Int32))] ?_
  exact own_retN X6 Blk hx (t := .boolean) Bret (by simp) (hb hby d15_24) ⟨rfl, N0, K0, E_o0, F_modCount_o0, F_elementData_o0, F_size_o0, V_o3⟩ dE_ dE_

set_option maxRecDepth 65536 in
set_option maxHeartbeats 40000000 in
theorem rm25_77 (hw : oW_ a0 Z) (Z0 : n0 ≤ h0.size) (g_o0 : n0 ≤ o0) (E_o0 : Exa Z h0 o0 c5_) (F_this_0_o0 : Fld Z h0 o0 c5_ "this$0" c14_ (.ref o2)) (F_lastRet_o0 : Fld Z h0 o0 c5_ "lastRet" "I" (.int i0)) (F_expectedModCount_o0 : Fld Z h0 o0 c5_ c17_ "I" (.int i1)) (F_cursor_o0 : Fld Z h0 o0 c5_ "cursor" "I" oZ) (F_modCount_o2 : Fld Z h0 o2 c4_ "modCount" "I" (.int i1)) (F_elementData_o2 : Fld Z h0 o2 c0_ "elementData" c3_ (.ref o3)) (F_size_o2 : Fld Z h0 o2 c0_ "size" "I" (.int i2)) (V_o3 : Arv Z h0 o3 k1 (.object c1_) (10 : Int32) [(.ref o4), (.ref o5), (.ref o6)] .null) (ne_o2_o0 : o2 ≠ o0) (hp0 : (0 : Int32) < i2) :
    oM l y16_ jdk_49_method_3_code 3 (some (.object c1_)) ws (rM_ 1 0 0 12) #[(.ref o0)] Z h0 (fun v h L => v = some (.ref o4) ∧ Fr n0 L ∧ Keep h0 h [o0] ∧ Exa Z h o0 c5_ ∧ Fld Z h o0 c5_ "this$0" c14_ (.ref o2) ∧ Fld Z h o0 c5_ "lastRet" "I" oZ ∧ Fld Z h o0 c5_ c17_ "I" (.int i1) ∧ Fld Z h o0 c5_ "cursor" "I" (.int (1 : Int32))) := by
  refine own_body c5_ (plainFor_of_name pn_25) (fun m => ef_25 m o0) fun p e s m below meth c s₁ X0 H hnm Bret Blk e0 => ?_
  obtain ⟨hx, hZ, hown, _, hby⟩ := id H
  have N0 := Fr.nil n0
  have K0 : Keep h0 h0 [o0] := Keep.refl h0 _
  have nx1 : o3 ≠ o0 := (Ne.symm (own_nev E_o0 (hV hw 147) V_o3))
  refine oG X0 H r25_0_0 1 #[rv o0, oU, oU] [(.ref o0)] ?_
  refine ocV X0 H (wb31_ hw) (rm26_57 hw Z0 F_this_0_o0 F_expectedModCount_o0 F_modCount_o2) e0 0 o0 E_o0 [] [] pd_3 d25_1 fun T2 _ _ X2 hQ2 => ?_
  obtain ⟨rfl, N2, e2⟩ := hQ2
  replace N0 := Fr.app N0 N2
  refine oG X2 H r25_4_4 5 #[rv o0, oU, oU] [(.ref o0)] ?_
  refine oGf X2 H (hV hw 170) e2 F_cursor_o0 d25_5 fun T3 X3 e3 => ?_
  refine oG X3 H r25_8_10 11 #[rv o0, iv (0 : Int32), oU] [(.ref o0), oZ] ?_
  refine oGf X3 H (hV hw 153) e3 F_this_0_o0 d25_11 fun T4 X4 e4 => ?_
  refine oGF X4 H (Or.inr (hV hw 172)) Via.refl e4 F_size_o2 d25_14 fun T5 X5 e5 => ?_
  refine oCY X5 H oD0 d25_17 28 #[rv o0, iv (0 : Int32), oU] [] rfl (tlt hp0).1 ?_
  refine oH X5 H r25_28_28 29 [(.ref o0)] ?_
  refine oGf X5 H (hV hw 153) e5 F_this_0_o0 d25_29 fun T6 X6 e6 => ?_
  refine oGf X6 H (hV hw 186) e6 F_elementData_o2 d25_32 fun T7 X7 e7 => ?_
  refine oG X7 H r25_35_37 38 #[rv o0, iv (0 : Int32), rv o3] [(.ref o3), oZ] ?_
  refine oLen X7 H e7 V_o3 d25_38 ?_
  refine oCY X7 H oD0 d25_39 50 #[rv o0, iv (0 : Int32), rv o3] [] rfl (tlt (by decide : (0 : Int32) < (10 : Int32))).1 ?_
  refine oH X7 H r25_50_52 53 [(.int (1 : Int32)), oZ, (.ref o0)] ?_
  refine oB_ (tF_ T7 (mkF m 54 #[rv o0, iv (0 : Int32), rv o3] [(.int (1 : Int32)), (.ref o0)])) (fun t k => ?_) ?_
  · refine XS.iadd X7.here hx rfl (hb hby d25_53) rfl ?_
    exact k
  refine own_c2 (putF X7 hx hZ hown (host := "") (Or.inl (hV hw 170)) Via.refl e7 F_cursor_o0 E_o0 (Or.inl (hV hw 171)) (hV hw 147) (ty := .int) dE_ rfl rfl rfl rfl (hb hby d25_54)) fun T8 h8 X8 e8 W8 => ?_
  replace F_cursor_o0 := F_cursor_o0.same W8
  replace E_o0 := E_o0.wr W8
  replace F_this_0_o0 := F_this_0_o0.other W8 (Or.inr (sn19 hw))
  replace F_lastRet_o0 := F_lastRet_o0.other W8 (Or.inr (sn20 hw))
  replace F_expectedModCount_o0 := F_expectedModCount_o0.other W8 (Or.inr (sn21 hw))
  replace K0 := K0.wr W8 (Or.inl (List.mem_of_getElem? (i := 0) rfl))
  replace N0 := Fr.snoc X8 N0 g_o0
  refine oG X8 H r25_57_59 60 #[rv o0, iv (0 : Int32), rv o3] [oZ, (.ref o0), (.ref o3)] ?_
  refine oB_ (tF_ T8 (mkF m 61 #[rv o0, iv (0 : Int32), rv o3] [oZ, (.ref o0), oZ, (.ref o3)])) (fun t k => ?_) ?_
  · refine XS.dupX1 X8.here hx rfl (hb hby d25_60) rfl rfl rfl ?_
    exact k
  refine own_c2 (putF X8 hx hZ hown (host := "") (Or.inl (hV hw 156)) Via.refl e8 F_lastRet_o0 E_o0 (Or.inl (hV hw 157)) (hV hw 147) (ty := .int) dE_ rfl rfl rfl rfl (hb hby d25_61)) fun T9 h9 X9 e9 W9 => ?_
  replace F_lastRet_o0 := F_lastRet_o0.same W9
  replace E_o0 := E_o0.wr W9
  replace F_this_0_o0 := F_this_0_o0.other W9 (Or.inr (sn9 hw))
  replace F_expectedModCount_o0 := F_expectedModCount_o0.other W9 (Or.inr (sn10 hw))
  replace F_cursor_o0 := F_cursor_o0.other W9 (Or.inr (sn11 hw))
  replace K0 := K0.wr W9 (Or.inl (List.mem_of_getElem? (i := 0) rfl))
  replace N0 := Fr.snoc X9 N0 g_o0
  refine oAal X9 H e9 (V_o3.keep K0 (ninS nx1 nin0)) d25_64 (.ref o4) ?_
  exact own_retR X9 Blk hx Bret rfl rfl rfl (hb hby d25_65) (by
      try rw [show T9.heap = h9 from e9]
      exact ⟨rfl, N0, K0, E_o0, F_this_0_o0, F_lastRet_o0, F_expectedModCount_o0, F_cursor_o0⟩) dE_ dE_

set_option maxRecDepth 65536 in
set_option maxHeartbeats 40000000 in
theorem rm25_78 (hw : oW_ a0 Z) (Z0 : n0 ≤ h0.size) (g_o0 : n0 ≤ o0) (E_o0 : Exa Z h0 o0 c5_) (F_this_0_o0 : Fld Z h0 o0 c5_ "this$0" c14_ (.ref o2)) (F_lastRet_o0 : Fld Z h0 o0 c5_ "lastRet" "I" (.int i0)) (F_expectedModCount_o0 : Fld Z h0 o0 c5_ c17_ "I" (.int i1)) (F_cursor_o0 : Fld Z h0 o0 c5_ "cursor" "I" (.int (1 : Int32))) (F_modCount_o2 : Fld Z h0 o2 c4_ "modCount" "I" (.int i1)) (F_elementData_o2 : Fld Z h0 o2 c0_ "elementData" c3_ (.ref o3)) (F_size_o2 : Fld Z h0 o2 c0_ "size" "I" (.int i2)) (V_o3 : Arv Z h0 o3 k1 (.object c1_) (10 : Int32) [(.ref o4), (.ref o5), (.ref o6)] .null) (ne_o2_o0 : o2 ≠ o0) (hp0 : (1 : Int32) < i2) :
    oM l y16_ jdk_49_method_3_code 3 (some (.object c1_)) ws (rM_ 1 0 0 12) #[(.ref o0)] Z h0 (fun v h L => v = some (.ref o5) ∧ Fr n0 L ∧ Keep h0 h [o0] ∧ Exa Z h o0 c5_ ∧ Fld Z h o0 c5_ "this$0" c14_ (.ref o2) ∧ Fld Z h o0 c5_ "lastRet" "I" (.int (1 : Int32)) ∧ Fld Z h o0 c5_ c17_ "I" (.int i1) ∧ Fld Z h o0 c5_ "cursor" "I" (.int (2 : Int32))) := by
  refine own_body c5_ (plainFor_of_name pn_25) (fun m => ef_25 m o0) fun p e s m below meth c s₁ X0 H hnm Bret Blk e0 => ?_
  obtain ⟨hx, hZ, hown, _, hby⟩ := id H
  have N0 := Fr.nil n0
  have K0 : Keep h0 h0 [o0] := Keep.refl h0 _
  have nx1 : o3 ≠ o0 := (Ne.symm (own_nev E_o0 (hV hw 147) V_o3))
  refine oG X0 H r25_0_0 1 #[rv o0, oU, oU] [(.ref o0)] ?_
  refine ocV X0 H (wb31_ hw) (rm26_57 hw Z0 F_this_0_o0 F_expectedModCount_o0 F_modCount_o2) e0 0 o0 E_o0 [] [] pd_3 d25_1 fun T2 _ _ X2 hQ2 => ?_
  obtain ⟨rfl, N2, e2⟩ := hQ2
  replace N0 := Fr.app N0 N2
  refine oG X2 H r25_4_4 5 #[rv o0, oU, oU] [(.ref o0)] ?_
  refine oGf X2 H (hV hw 170) e2 F_cursor_o0 d25_5 fun T3 X3 e3 => ?_
  refine oG X3 H r25_8_10 11 #[rv o0, iv (1 : Int32), oU] [(.ref o0), (.int (1 : Int32))] ?_
  refine oGf X3 H (hV hw 153) e3 F_this_0_o0 d25_11 fun T4 X4 e4 => ?_
  refine oGF X4 H (Or.inr (hV hw 172)) Via.refl e4 F_size_o2 d25_14 fun T5 X5 e5 => ?_
  refine oCY X5 H oD0 d25_17 28 #[rv o0, iv (1 : Int32), oU] [] rfl (tlt hp0).1 ?_
  refine oH X5 H r25_28_28 29 [(.ref o0)] ?_
  refine oGf X5 H (hV hw 153) e5 F_this_0_o0 d25_29 fun T6 X6 e6 => ?_
  refine oGf X6 H (hV hw 186) e6 F_elementData_o2 d25_32 fun T7 X7 e7 => ?_
  refine oG X7 H r25_35_37 38 #[rv o0, iv (1 : Int32), rv o3] [(.ref o3), (.int (1 : Int32))] ?_
  refine oLen X7 H e7 V_o3 d25_38 ?_
  refine oCY X7 H oD0 d25_39 50 #[rv o0, iv (1 : Int32), rv o3] [] rfl (tlt (by decide : (1 : Int32) < (10 : Int32))).1 ?_
  refine oH X7 H r25_50_52 53 [(.int (1 : Int32)), (.int (1 : Int32)), (.ref o0)] ?_
  refine oB_ (tF_ T7 (mkF m 54 #[rv o0, iv (1 : Int32), rv o3] [(.int (2 : Int32)), (.ref o0)])) (fun t k => ?_) ?_
  · refine XS.iadd X7.here hx rfl (hb hby d25_53) rfl ?_
    exact k
  refine own_c2 (putF X7 hx hZ hown (host := "") (Or.inl (hV hw 170)) Via.refl e7 F_cursor_o0 E_o0 (Or.inl (hV hw 171)) (hV hw 147) (ty := .int) dE_ rfl rfl rfl rfl (hb hby d25_54)) fun T8 h8 X8 e8 W8 => ?_
  replace F_cursor_o0 := F_cursor_o0.same W8
  replace E_o0 := E_o0.wr W8
  replace F_this_0_o0 := F_this_0_o0.other W8 (Or.inr (sn19 hw))
  replace F_lastRet_o0 := F_lastRet_o0.other W8 (Or.inr (sn20 hw))
  replace F_expectedModCount_o0 := F_expectedModCount_o0.other W8 (Or.inr (sn21 hw))
  replace K0 := K0.wr W8 (Or.inl (List.mem_of_getElem? (i := 0) rfl))
  replace N0 := Fr.snoc X8 N0 g_o0
  refine oG X8 H r25_57_59 60 #[rv o0, iv (1 : Int32), rv o3] [(.int (1 : Int32)), (.ref o0), (.ref o3)] ?_
  refine oB_ (tF_ T8 (mkF m 61 #[rv o0, iv (1 : Int32), rv o3] [(.int (1 : Int32)), (.ref o0), (.int (1 : Int32)), (.ref o3)])) (fun t k => ?_) ?_
  · refine XS.dupX1 X8.here hx rfl (hb hby d25_60) rfl rfl rfl ?_
    exact k
  refine own_c2 (putF X8 hx hZ hown (host := "") (Or.inl (hV hw 156)) Via.refl e8 F_lastRet_o0 E_o0 (Or.inl (hV hw 157)) (hV hw 147) (ty := .int) dE_ rfl rfl rfl rfl (hb hby d25_61)) fun T9 h9 X9 e9 W9 => ?_
  replace F_lastRet_o0 := F_lastRet_o0.same W9
  replace E_o0 := E_o0.wr W9
  replace F_this_0_o0 := F_this_0_o0.other W9 (Or.inr (sn9 hw))
  replace F_expectedModCount_o0 := F_expectedModCount_o0.other W9 (Or.inr (sn10 hw))
  replace F_cursor_o0 := F_cursor_o0.other W9 (Or.inr (sn11 hw))
  replace K0 := K0.wr W9 (Or.inl (List.mem_of_getElem? (i := 0) rfl))
  replace N0 := Fr.snoc X9 N0 g_o0
  refine oAal X9 H e9 (V_o3.keep K0 (ninS nx1 nin0)) d25_64 (.ref o5) ?_
  exact own_retR X9 Blk hx Bret rfl rfl rfl (hb hby d25_65) (by
      try rw [show T9.heap = h9 from e9]
      exact ⟨rfl, N0, K0, E_o0, F_this_0_o0, F_lastRet_o0, F_expectedModCount_o0, F_cursor_o0⟩) dE_ dE_

set_option maxRecDepth 65536 in
set_option maxHeartbeats 40000000 in
theorem rm25_79 (hw : oW_ a0 Z) (Z0 : n0 ≤ h0.size) (g_o0 : n0 ≤ o0) (E_o0 : Exa Z h0 o0 c5_) (F_this_0_o0 : Fld Z h0 o0 c5_ "this$0" c14_ (.ref o2)) (F_lastRet_o0 : Fld Z h0 o0 c5_ "lastRet" "I" (.int i0)) (F_expectedModCount_o0 : Fld Z h0 o0 c5_ c17_ "I" (.int i1)) (F_cursor_o0 : Fld Z h0 o0 c5_ "cursor" "I" (.int (2 : Int32))) (F_modCount_o2 : Fld Z h0 o2 c4_ "modCount" "I" (.int i1)) (F_elementData_o2 : Fld Z h0 o2 c0_ "elementData" c3_ (.ref o3)) (F_size_o2 : Fld Z h0 o2 c0_ "size" "I" (.int i2)) (V_o3 : Arv Z h0 o3 k1 (.object c1_) (10 : Int32) [(.ref o4), (.ref o5), (.ref o6)] .null) (ne_o2_o0 : o2 ≠ o0) (hp0 : (2 : Int32) < i2) :
    oM l y16_ jdk_49_method_3_code 3 (some (.object c1_)) ws (rM_ 1 0 0 12) #[(.ref o0)] Z h0 (fun v h L => v = some (.ref o6) ∧ Fr n0 L ∧ Keep h0 h [o0] ∧ Exa Z h o0 c5_ ∧ Fld Z h o0 c5_ "this$0" c14_ (.ref o2) ∧ Fld Z h o0 c5_ "lastRet" "I" (.int (2 : Int32)) ∧ Fld Z h o0 c5_ c17_ "I" (.int i1) ∧ Fld Z h o0 c5_ "cursor" "I" (.int (3 : Int32))) := by
  refine own_body c5_ (plainFor_of_name pn_25) (fun m => ef_25 m o0) fun p e s m below meth c s₁ X0 H hnm Bret Blk e0 => ?_
  obtain ⟨hx, hZ, hown, _, hby⟩ := id H
  have N0 := Fr.nil n0
  have K0 : Keep h0 h0 [o0] := Keep.refl h0 _
  have nx1 : o3 ≠ o0 := (Ne.symm (own_nev E_o0 (hV hw 147) V_o3))
  refine oG X0 H r25_0_0 1 #[rv o0, oU, oU] [(.ref o0)] ?_
  refine ocV X0 H (wb31_ hw) (rm26_57 hw Z0 F_this_0_o0 F_expectedModCount_o0 F_modCount_o2) e0 0 o0 E_o0 [] [] pd_3 d25_1 fun T2 _ _ X2 hQ2 => ?_
  obtain ⟨rfl, N2, e2⟩ := hQ2
  replace N0 := Fr.app N0 N2
  refine oG X2 H r25_4_4 5 #[rv o0, oU, oU] [(.ref o0)] ?_
  refine oGf X2 H (hV hw 170) e2 F_cursor_o0 d25_5 fun T3 X3 e3 => ?_
  refine oG X3 H r25_8_10 11 #[rv o0, iv (2 : Int32), oU] [(.ref o0), (.int (2 : Int32))] ?_
  refine oGf X3 H (hV hw 153) e3 F_this_0_o0 d25_11 fun T4 X4 e4 => ?_
  refine oGF X4 H (Or.inr (hV hw 172)) Via.refl e4 F_size_o2 d25_14 fun T5 X5 e5 => ?_
  refine oCY X5 H oD0 d25_17 28 #[rv o0, iv (2 : Int32), oU] [] rfl (tlt hp0).1 ?_
  refine oH X5 H r25_28_28 29 [(.ref o0)] ?_
  refine oGf X5 H (hV hw 153) e5 F_this_0_o0 d25_29 fun T6 X6 e6 => ?_
  refine oGf X6 H (hV hw 186) e6 F_elementData_o2 d25_32 fun T7 X7 e7 => ?_
  refine oG X7 H r25_35_37 38 #[rv o0, iv (2 : Int32), rv o3] [(.ref o3), (.int (2 : Int32))] ?_
  refine oLen X7 H e7 V_o3 d25_38 ?_
  refine oCY X7 H oD0 d25_39 50 #[rv o0, iv (2 : Int32), rv o3] [] rfl (tlt (by decide : (2 : Int32) < (10 : Int32))).1 ?_
  refine oH X7 H r25_50_52 53 [(.int (1 : Int32)), (.int (2 : Int32)), (.ref o0)] ?_
  refine oB_ (tF_ T7 (mkF m 54 #[rv o0, iv (2 : Int32), rv o3] [(.int (3 : Int32)), (.ref o0)])) (fun t k => ?_) ?_
  · refine XS.iadd X7.here hx rfl (hb hby d25_53) rfl ?_
    exact k
  refine own_c2 (putF X7 hx hZ hown (host := "") (Or.inl (hV hw 170)) Via.refl e7 F_cursor_o0 E_o0 (Or.inl (hV hw 171)) (hV hw 147) (ty := .int) dE_ rfl rfl rfl rfl (hb hby d25_54)) fun T8 h8 X8 e8 W8 => ?_
  replace F_cursor_o0 := F_cursor_o0.same W8
  replace E_o0 := E_o0.wr W8
  replace F_this_0_o0 := F_this_0_o0.other W8 (Or.inr (sn19 hw))
  replace F_lastRet_o0 := F_lastRet_o0.other W8 (Or.inr (sn20 hw))
  replace F_expectedModCount_o0 := F_expectedModCount_o0.other W8 (Or.inr (sn21 hw))
  replace K0 := K0.wr W8 (Or.inl (List.mem_of_getElem? (i := 0) rfl))
  replace N0 := Fr.snoc X8 N0 g_o0
  refine oG X8 H r25_57_59 60 #[rv o0, iv (2 : Int32), rv o3] [(.int (2 : Int32)), (.ref o0), (.ref o3)] ?_
  refine oB_ (tF_ T8 (mkF m 61 #[rv o0, iv (2 : Int32), rv o3] [(.int (2 : Int32)), (.ref o0), (.int (2 : Int32)), (.ref o3)])) (fun t k => ?_) ?_
  · refine XS.dupX1 X8.here hx rfl (hb hby d25_60) rfl rfl rfl ?_
    exact k
  refine own_c2 (putF X8 hx hZ hown (host := "") (Or.inl (hV hw 156)) Via.refl e8 F_lastRet_o0 E_o0 (Or.inl (hV hw 157)) (hV hw 147) (ty := .int) dE_ rfl rfl rfl rfl (hb hby d25_61)) fun T9 h9 X9 e9 W9 => ?_
  replace F_lastRet_o0 := F_lastRet_o0.same W9
  replace E_o0 := E_o0.wr W9
  replace F_this_0_o0 := F_this_0_o0.other W9 (Or.inr (sn9 hw))
  replace F_expectedModCount_o0 := F_expectedModCount_o0.other W9 (Or.inr (sn10 hw))
  replace F_cursor_o0 := F_cursor_o0.other W9 (Or.inr (sn11 hw))
  replace K0 := K0.wr W9 (Or.inl (List.mem_of_getElem? (i := 0) rfl))
  replace N0 := Fr.snoc X9 N0 g_o0
  refine oAal X9 H e9 (V_o3.keep K0 (ninS nx1 nin0)) d25_64 (.ref o6) ?_
  exact own_retR X9 Blk hx Bret rfl rfl rfl (hb hby d25_65) (by
      try rw [show T9.heap = h9 from e9]
      exact ⟨rfl, N0, K0, E_o0, F_this_0_o0, F_lastRet_o0, F_expectedModCount_o0, F_cursor_o0⟩) dE_ dE_

set_option maxRecDepth 65536 in
set_option maxHeartbeats 40000000 in
theorem rm16_80 (hw : oW_ a0 Z) (Z0 : n0 ≤ h0.size) (g_o0 : n0 ≤ o0) (E_o0 : Exa Z h0 o0 c0_) (F_modCount_o0 : Fld Z h0 o0 c4_ "modCount" "I" (.int i0)) (F_elementData_o0 : Fld Z h0 o0 c0_ "elementData" c3_ (.ref o2)) (F_size_o0 : Fld Z h0 o0 c0_ "size" "I" (.int i1)) (E_o1 : Exa Z h0 o1 c8_) (g_o2 : n0 ≤ o2) (V_o2 : Arv Z h0 o2 k0 (.object c1_) (10 : Int32) [(.ref o4), (.ref o5)] .null) (Ov_k0 : Ovr Z k0 c1_) :
    oM l y14_ jdk_38_method_24_code 4 none ws (rM_ 0 0 0 0) #[(.ref o0), (.ref o1), (.ref o2), (.int (2 : Int32))] Z h0 (fun v h L => v = none ∧ Fr n0 L ∧ Keep h0 h [o2, o0] ∧ Arv Z h o2 k0 (.object c1_) (10 : Int32) [(.ref o4), (.ref o5), (.ref o1)] .null ∧ Exa Z h o0 c0_ ∧ Fld Z h o0 c4_ "modCount" "I" (.int i0) ∧ Fld Z h o0 c0_ "elementData" c3_ (.ref o2) ∧ Fld Z h o0 c0_ "size" "I" (.int (3 : Int32))) := by
  refine own_body c0_ (plainFor_of_name pn_16) (fun m => ef_16 m o0 o1 o2 (2 : Int32)) fun p e s m below meth c s₁ X0 H hnm Bret Blk e0 => ?_
  obtain ⟨hx, hZ, hown, _, hby⟩ := id H
  have N0 := Fr.nil n0
  have K0 : Keep h0 h0 [o2, o0] := Keep.refl h0 _
  refine oG X0 H r16_0_1 2 #[rv o0, rv o1, rv o2, iv (2 : Int32)] [(.ref o2), (.int (2 : Int32))] ?_
  refine oLen X0 H e0 V_o2 d16_2 ?_
  refine oCY X0 H oD0 d16_3 11 #[rv o0, rv o1, rv o2, iv (2 : Int32)] [] rfl (feq (by decide : ¬ ((2 : Int32) = (10 : Int32)))).2 ?_
  refine oH X0 H r16_11_13 14 [(.ref o1), (.int (2 : Int32)), (.ref o2)] ?_
  replace V_o2 : Arv Z h0 o2 k0 (.object c1_) (10 : Int32) [(.ref o4), (.ref o5), .null] .null := V_o2.pad (pad_rep [(.ref o4), (.ref o5)] .null 1)
  have nx1 : o0 ≠ o2 := (own_nev E_o0 (hV hw 48) V_o2)
  obtain ⟨cl1, Ar1, q1, S1, N1, H1, G1⟩ := id V_o2
  have hin1 : ¬ ((2 : Int32) < 0 ∨ cl1.slots.size ≤ ((2 : Int32)).toNatClampNeg) := inb_of S1 ⟨by decide, by decide⟩
  refine own_c2 (stR X0 hx hZ e0 Ar1 (j := (2 : Int32)) hin1 rfl (Sto.ofV Ar1 q1 Ov_k0 (Ins.of_exa E_o1 (hV hw 222))) rfl rfl (hb hby d16_14)) fun T1 h1 X1 e1 W1 => ?_
  replace V_o2 : Arv Z h1 o2 k0 (.object c1_) (10 : Int32) [(.ref o4), (.ref o5), (.ref o1)] .null := Arv.set Ar1 q1 S1 N1 H1 G1 rfl W1 2 rfl nB_
  replace E_o0 := E_o0.wr W1
  replace F_modCount_o0 := F_modCount_o0.other W1 (Or.inl nx1)
  replace F_elementData_o0 := F_elementData_o0.other W1 (Or.inl nx1)
  replace F_size_o0 := F_size_o0.other W1 (Or.inl nx1)
  replace K0 := K0.wr W1 (Or.inl (List.mem_of_getElem? (i := 0) rfl))
  replace N0 := Fr.snoc X1 N0 g_o2
  refine oG X1 H r16_15_17 18 #[rv o0, rv o1, rv o2, iv (2 : Int32)] [(.int (1 : Int32)), (.int (2 : Int32)), (.ref o0)] ?_
  refine oB_ (tF_ T1 (mkF m 19 #[rv o0, rv o1, rv o2, iv (2 : Int32)] [(.int (3 : Int32)), (.ref o0)])) (fun t k => ?_) ?_
  · refine XS.iadd X1.here hx rfl (hb hby d16_18) rfl ?_
    exact k
  refine own_c2 (putF X1 hx hZ hown (host := "") (Or.inl (hV hw 98)) Via.refl e1 F_size_o0 E_o0 (Or.inl (hV hw 99)) (hV hw 48) (ty := .int) dE_ rfl rfl rfl rfl (hb hby d16_19)) fun T2 h2 X2 e2 W2 => ?_
  replace F_size_o0 := F_size_o0.same W2
  replace E_o0 := E_o0.wr W2
  replace F_modCount_o0 := F_modCount_o0.other W2 (Or.inr (sn17 hw))
  replace F_elementData_o0 := F_elementData_o0.other W2 (Or.inr (sn18 hw))
  replace V_o2 := V_o2.other W2 (Ne.symm nx1)
  replace K0 := K0.wr W2 (Or.inl (List.mem_of_getElem? (i := 1) rfl))
  replace N0 := Fr.snoc X2 N0 g_o0
  show own_Go p e below _ (T2.setTop (mkF m 22 #[rv o0, rv o1, rv o2, iv (2 : Int32)] []))
  exact own_retV X2 Blk hx Bret (hb hby d16_22) (by
      try rw [show T2.heap = h2 from e2]
      exact ⟨rfl, N0, K0, V_o2, E_o0, F_modCount_o0, F_elementData_o0, F_size_o0⟩) dE_ dE_

set_option maxRecDepth 65536 in
set_option maxHeartbeats 40000000 in
theorem rm15_81 (hw : oW_ a0 Z) (Z0 : n0 ≤ h0.size) (g_o0 : n0 ≤ o0) (E_o0 : Exa Z h0 o0 c0_) (F_modCount_o0 : Fld Z h0 o0 c4_ "modCount" "I" (.int i0)) (F_elementData_o0 : Fld Z h0 o0 c0_ "elementData" c3_ (.ref o3)) (F_size_o0 : Fld Z h0 o0 c0_ "size" "I" (.int (2 : Int32))) (E_o1 : Exa Z h0 o1 c8_) (g_o3 : n0 ≤ o3) (V_o3 : Arv Z h0 o3 k1 (.object c1_) (10 : Int32) [(.ref o4), (.ref o5)] .null) (Ov_k1 : Ovr Z k1 c1_) :
    oM l y15_ jdk_38_method_25_code 2 (some .boolean) ws (rM_ 1 0 0 15) #[(.ref o0), (.ref o1)] Z h0 (fun v h L => v = some (.int (1 : Int32)) ∧ Fr n0 L ∧ Keep h0 h [o0, o3] ∧ Exa Z h o0 c0_ ∧ Fld Z h o0 c4_ "modCount" "I" (.int (i0 + (1 : Int32))) ∧ Fld Z h o0 c0_ "elementData" c3_ (.ref o3) ∧ Fld Z h o0 c0_ "size" "I" (.int (3 : Int32)) ∧ Arv Z h o3 k1 (.object c1_) (10 : Int32) [(.ref o4), (.ref o5), (.ref o1)] .null) := by
  refine own_body c0_ (plainFor_of_name pn_15) (fun m => ef_15 m o0 o1) fun p e s m below meth c s₁ X0 H hnm Bret Blk e0 => ?_
  obtain ⟨hx, hZ, hown, _, hby⟩ := id H
  have N0 := Fr.nil n0
  have K0 : Keep h0 h0 [o0, o3] := Keep.refl h0 _
  refine oG X0 H r15_0_1 2 #[rv o0, rv o1] [(.ref o0), (.ref o0)] ?_
  refine oGF X0 H (host := "") (Or.inl (hV hw 96)) (Via.of (hV hw 97)) e0 F_modCount_o0 d15_2 fun T1 X1 e1 => ?_
  refine oG X1 H r15_5_5 6 #[rv o0, rv o1] [(.int (1 : Int32)), (.int i0), (.ref o0)] ?_
  refine oB_ (tF_ T1 (mkF m 7 #[rv o0, rv o1] [(.int (i0 + (1 : Int32))), (.ref o0)])) (fun t k => ?_) ?_
  · refine XS.iadd X1.here hx rfl (hb hby d15_6) rfl ?_
    exact k
  refine own_c2 (putF X1 hx hZ hown (host := "") (Or.inl (hV hw 96)) (Via.of (hV hw 97)) e1 F_modCount_o0 E_o0 (Or.inl (hV hw 67)) (hV hw 48) (ty := .int) dE_ rfl rfl rfl rfl (hb hby d15_7)) fun T2 h2 X2 e2 W2 => ?_
  replace F_modCount_o0 := F_modCount_o0.same W2
  have nx1 : o3 ≠ o0 := (Ne.symm (own_nev E_o0 (hV hw 48) V_o3))
  replace E_o0 := E_o0.wr W2
  replace F_elementData_o0 := F_elementData_o0.other W2 (Or.inr (sn2 hw))
  replace F_size_o0 := F_size_o0.other W2 (Or.inr (sn3 hw))
  replace V_o3 := V_o3.other W2 nx1
  replace K0 := K0.wr W2 (Or.inl (List.mem_of_getElem? (i := 0) rfl))
  replace Z0 := Nat.le_trans Z0 (Keep.of_wr W2).1
  replace N0 := Fr.snoc X2 N0 g_o0
  refine oG X2 H r15_10_12 13 #[rv o0, rv o1] [(.ref o0), (.ref o1), (.ref o0)] ?_
  refine oGf X2 H (hV hw 69) e2 F_elementData_o0 d15_13 fun T3 X3 e3 => ?_
  refine oG X3 H r15_16_16 17 #[rv o0, rv o1] [(.ref o0), (.ref o3), (.ref o1), (.ref o0)] ?_
  refine oGf X3 H (hV hw 98) e3 F_size_o0 d15_17 fun T4 X4 e4 => ?_
  refine ocP X4 H (wb29_ hw) (rm16_80 hw Z0 g_o0 E_o0 F_modCount_o0 F_elementData_o0 F_size_o0 (E_o1.keep K0) g_o3 V_o3 Ov_k1) e4 0 o0 E_o0 [(.ref o1), (.ref o3), (.int (2 : Int32))] [] pd_11 d15_20 fun T6 _ _ X6 hQ6 => ?_
  obtain ⟨rfl, N6, K6, V_o3', E_o0', F_modCount_o0', F_elementData_o0', F_size_o0'⟩ := hQ6
  replace N0 := Fr.app N0 N6
  replace K0 := K0.trans K6 (allS (Or.inl (List.mem_of_getElem? (i := 1) rfl)) (allS (Or.inl (List.mem_of_getElem? (i := 0) rfl)) all0))
  have V_o3 := V_o3'
  replace E_o0 := E_o0'
  have F_modCount_o0 := F_modCount_o0'
  have F_elementData_o0 := F_elementData_o0'
  have F_size_o0 := F_size_o0'
  refine oG X6 H r15_23_23 24 #[rv o0, rv o1] [(.int (1 : Int32))] ?_
  exact own_retN X6 Blk hx (t := .boolean) Bret (by simp) (hb hby d15_24) ⟨rfl, N0, K0, E_o0, F_modCount_o0, F_elementData_o0, F_size_o0, V_o3⟩ dE_ dE_

set_option maxRecDepth 65536 in
set_option maxHeartbeats 40000000 in
theorem rm21_82 (hw : oW_ a0 Z) (Z0 : n0 ≤ h0.size) (F_members_o0 : Fld Z h0 o0 c7_ "members" c19_ (.ref o3)) (T_o1 : own_Str Z h0 o1 l0) (V_o2 : Arv Z h0 o2 k0 (.object c1_) (0 : Int32) [] .null) (E_o3 : Exa Z h0 o3 c0_) (F_modCount_o3 : Fld Z h0 o3 c4_ "modCount" "I" (.int i0)) (F_elementData_o3 : Fld Z h0 o3 c0_ "elementData" c3_ (.ref o4)) (F_size_o3 : Fld Z h0 o3 c0_ "size" "I" (.int i1)) (V_o4 : Arv Z h0 o4 k1 (.object c1_) (10 : Int32) [(.ref o5), (.ref o6), (.ref o7)] .null) (E_o5 : Exa Z h0 o5 c6_) (F_name_o5 : Fld Z h0 o5 c6_ "name" c9_ (.ref o8)) (F_value_o5 : Fld Z h0 o5 c6_ "value" c11_ (.ref o9)) (E_o6 : Exa Z h0 o6 c6_) (F_name_o6 : Fld Z h0 o6 c6_ "name" c9_ (.ref o10)) (F_value_o6 : Fld Z h0 o6 c6_ "value" c11_ (.ref o11)) (E_o7 : Exa Z h0 o7 c6_) (F_name_o7 : Fld Z h0 o7 c6_ "name" c9_ (.ref o12)) (F_value_o7 : Fld Z h0 o7 c6_ "value" c11_ (.ref o13)) (T_o8 : own_Str Z h0 o8 l1) (E_o9 : Exa Z h0 o9 c8_) (T_o10 : own_Str Z h0 o10 l2) (E_o11 : Exa Z h0 o11 c8_) (T_o12 : own_Str Z h0 o12 l3) (E_o13 : Exa Z h0 o13 c8_) (S_DEFAULTCAPACITY_EMPTY_ELEMENTDATA : Sta Z Z.heap c0_ c15_ c3_ (.ref o2)) (S_COMPACT_STRINGS : Sta Z Z.heap c2_ c13_ "Z" (.int i2)) (OZ : Old Z n0 h0) (hp0 : ¬ ((0 : Int32) = i1)) (hp1 : (0 : Int32) < i1) (hp2 : l1 = l0) (hp3 : ¬ (i2 = (0 : Int32))) (ne_o8_o1 : o8 ≠ o1) (hp4 : ¬ ((1 : Int32) = i1)) (hp5 : (1 : Int32) < i1) (hp6 : l2 = l0) (ne_o10_o1 : o10 ≠ o1) (hp7 : ¬ ((2 : Int32) = i1)) (hp8 : (2 : Int32) < i1) (hp9 : l3 = l0) (ne_o12_o1 : o12 ≠ o1) (hp10 : (3 : Int32) = i1) :
    oM l y13_ prog_24_method_2_code 5 (some (.object c12_)) ws (rM_ 5 3 17 69) #[(.ref o0), (.ref o1)] Z h0 (fun v h L => ∃ b1 : Addr, ∃ b19_0 : Addr, ∃ k19_1 : ClassId, v = some (.ref b1) ∧ Fr n0 L ∧ Keep h0 h [] ∧ Exa Z h b1 c0_ ∧ Fld Z h b1 c4_ "modCount" "I" (.int (3 : Int32)) ∧ Fld Z h b1 c0_ "elementData" c3_ (.ref b19_0) ∧ Fld Z h b1 c0_ "size" "I" (.int (3 : Int32)) ∧ Arv Z h b19_0 k19_1 (.object c1_) (10 : Int32) [(.ref o9), (.ref o11), (.ref o13)] .null ∧ Ovr Z k19_1 c1_ ∧ h0.size ≤ b1 ∧ h0.size ≤ b19_0 ∧ b1 ≠ b19_0) := by
  refine own_body c7_ (plainFor_of_name pn_21) (fun m => ef_21 m o0 o1) fun p e s m below meth c s₁ X0 H hnm Bret Blk e0 => ?_
  obtain ⟨hx, _, _, _, hby⟩ := id H
  have N0 := Fr.nil n0
  have K0 : Keep h0 h0 [] := Keep.refl h0 _
  refine oNw X0 H (hV hw 136) (hV hw 48) (hV hw 49) e0 d21_0 fun T1 h1 b1 X1 e1 E1 u1 E_b1 D1 => ?_
  have g_b1 := Nat.le_trans Z0 u1
  have sz_b1 := Nat.le_trans K0.1 u1
  replace OZ := OZ.ext E1
  replace K0 := K0.ext E1
  replace Z0 := Nat.le_trans Z0 E1.1
  have F_modCount_b1 : Fld Z h1 b1 c4_ "modCount" "I" oZ := D1 (Or.inl (hV hw 67)) (ty := .int) dE_
  have F_elementData_b1 : Fld Z h1 b1 c0_ "elementData" c3_ .null := D1 (Or.inl (hV hw 70)) (ty := (.array (.object c1_))) dE_
  have F_size_b1 : Fld Z h1 b1 c0_ "size" "I" oZ := D1 (Or.inl (hV hw 99)) (ty := .int) dE_
  refine oG X1 H r21_3_3 4 (lA12_ o0 o1) [(.ref b1), (.ref b1)] ?_
  refine ocI X1 H (wb19_ hw) (rm10_43 hw Z0 g_b1 E_b1 F_modCount_b1 F_elementData_b1 F_size_b1 S_DEFAULTCAPACITY_EMPTY_ELEMENTDATA OZ) e1 1 b1 [] [(.ref b1)] pd_3 d21_4 fun T3 _ _ X3 hQ3 => ?_
  obtain ⟨rfl, N3, K3, E_b1', F_modCount_b1', F_elementData_b1', F_size_b1'⟩ := hQ3
  replace N0 := Fr.app N0 N3
  replace OZ := OZ.keep K3 (allS g_b1 all0)
  replace K0 := K0.trans K3 (allS (Or.inr sz_b1) all0)
  replace Z0 := Nat.le_trans Z0 K3.1
  replace E_b1 := E_b1'
  have F_modCount_b1 := F_modCount_b1'
  have F_elementData_b1 := F_elementData_b1'
  have F_size_b1 := F_size_b1'
  refine oG X3 H r21_7_8 9 (lA13_ o0 o1 b1) [(.ref o0)] ?_
  refine oGf X3 H (hV hw 129) rfl (F_members_o0.keep K0 nin0) d21_9 fun T4 X4 e4 => ?_
  refine ocF X4 H (wb21_ hw) (rm22_47 hw Z0 (F_modCount_o3.keep K0 nin0)) e4 0 o3 (E_o3.keep K0) [] [] pd_17 d21_12 fun T6 _ _ X6 hQ6 => ?_
  obtain ⟨b6_0, rfl, N6, K6, E_b6_0', F_this_0_b6_0', F_lastRet_b6_0', F_expectedModCount_b6_0', F_cursor_b6_0', sz_b6_0'⟩ := hQ6
  replace N0 := Fr.app N0 N6
  have g_b6_0 := Nat.le_trans Z0 sz_b6_0'
  have sz_b6_0 := Nat.le_trans K0.1 sz_b6_0'
  have ne_b1_b6_0 := oNl E_b1.lt sz_b6_0'
  replace E_b1 := E_b1.keep K6
  replace F_modCount_b1 := F_modCount_b1.keep K6 nin0
  replace F_elementData_b1 := F_elementData_b1.keep K6 nin0
  replace F_size_b1 := F_size_b1.keep K6 nin0
  replace OZ := OZ.keep K6 all0
  replace K0 := K0.trans K6 all0
  replace Z0 := Nat.le_trans Z0 K6.1
  have E_b6_0 := E_b6_0'
  have F_this_0_b6_0 := F_this_0_b6_0'
  have F_lastRet_b6_0 := F_lastRet_b6_0'
  have F_expectedModCount_b6_0 := F_expectedModCount_b6_0'
  have F_cursor_b6_0 := F_cursor_b6_0'
  refine oG X6 H r21_17_18 19 (lA14_ o0 o1 b1 b6_0) [(.ref b6_0)] ?_
  refine ocF X6 H (wb22_ hw) (rm24_56 hw Z0 F_this_0_b6_0 F_cursor_b6_0 (F_size_o3.keep K0 nin0) hp0) (rfl : T6.heap = _) 0 b6_0 E_b6_0 [] [] pd_19 d21_19 fun T8 _ _ X8 hQ8 => ?_
  obtain ⟨rfl, N8, e8⟩ := hQ8
  replace N0 := Fr.app N0 N8
  refine oIN X8 H oD0 d21_24 (lA14_ o0 o1 b1 b6_0) [] rfl ((if0 _ _).trans (feq (by decide : ¬ ((1 : Int32) = (0 : Int32)))).1) ?_
  refine oH X8 H r21_27_27 28 [(.ref b6_0)] ?_
  refine ocF X8 H (wb32_ hw) (rm25_77 hw Z0 g_b6_0 E_b6_0 F_this_0_b6_0 F_lastRet_b6_0 F_expectedModCount_b6_0 F_cursor_b6_0 (F_modCount_o3.keep K0 nin0) (F_elementData_o3.keep K0 nin0) (F_size_o3.keep K0 nin0) (V_o4.keep K0 nin0) (oNl E_o3.lt sz_b6_0) hp1) e8 0 b6_0 E_b6_0 [] [] pd_20 d21_28 fun T10 _ _ X10 hQ10 => ?_
  obtain ⟨rfl, N10, K10, E_b6_0', F_this_0_b6_0', F_lastRet_b6_0', F_expectedModCount_b6_0', F_cursor_b6_0'⟩ := hQ10
  replace N0 := Fr.app N0 N10
  replace E_b1 := E_b1.keep K10
  replace F_modCount_b1 := F_modCount_b1.keep K10 (ninS ne_b1_b6_0 nin0)
  replace F_elementData_b1 := F_elementData_b1.keep K10 (ninS ne_b1_b6_0 nin0)
  replace F_size_b1 := F_size_b1.keep K10 (ninS ne_b1_b6_0 nin0)
  replace OZ := OZ.keep K10 (allS g_b6_0 all0)
  replace K0 := K0.trans K10 (allS (Or.inr sz_b6_0) all0)
  replace Z0 := Nat.le_trans Z0 K10.1
  replace E_b6_0 := E_b6_0'
  have F_this_0_b6_0 := F_this_0_b6_0'
  have F_lastRet_b6_0 := F_lastRet_b6_0'
  have F_expectedModCount_b6_0 := F_expectedModCount_b6_0'
  have F_cursor_b6_0 := F_cursor_b6_0'
  refine oKst X10 H (hV hw 187) rfl (Ins.self (E_o5.keep K0)) d21_33 fun T11 X11 e11 => ?_
  refine oG X11 H r21_36_38 40 (lA15_ o0 o1 b1 b6_0 o5) [(.ref o5)] ?_
  refine ocV X11 H (wb33_ hw) (rm27_59 hw Z0 (F_name_o5.keep K0 nin0)) e11 0 o5 (E_o5.keep K0) [] [] pd_21 d21_40 fun T13 _ _ X13 hQ13 => ?_
  obtain ⟨rfl, N13, e13⟩ := hQ13
  replace N0 := Fr.app N0 N13
  refine oG X13 H r21_43_43 44 (lA15_ o0 o1 b1 b6_0 o5) [(.ref o1), (.ref o8)] ?_
  refine ocV X13 H (wb34_ hw) (rm28_eq hw Z0 OZ S_COMPACT_STRINGS hp3 (T_o8.keep K0) (T_o1.keep K0) ne_o8_o1 hp2) e13 0 o8 (own_Str.exa (T_o8.keep K0)) [(.ref o1)] [] pd_10 d21_44 fun T15 _ _ X15 hQ15 => ?_
  obtain ⟨rfl, N15, e15⟩ := hQ15
  replace N0 := Fr.app N0 N15
  refine oIN X15 H oD0 d21_47 (lA15_ o0 o1 b1 b6_0 o5) [] rfl ((if0 _ _).trans (feq (by decide : ¬ ((1 : Int32) = (0 : Int32)))).1) ?_
  refine oH X15 H r21_50_51 53 [(.ref o5), (.ref b1)] ?_
  refine ocV X15 H (wb35_ hw) (rm31_60 hw Z0 (F_value_o5.keep K0 nin0)) e15 1 o5 (E_o5.keep K0) [] [(.ref b1)] pd_20 d21_53 fun T17 _ _ X17 hQ17 => ?_
  obtain ⟨rfl, N17, e17⟩ := hQ17
  replace N0 := Fr.app N0 N17
  refine ocF X17 H (wb36_ hw) (rm15_62 hw Z0 g_b1 E_b1 F_modCount_b1 F_elementData_b1 F_size_b1 (E_o9.keep K0) (V_o2.keep K0 nin0) S_DEFAULTCAPACITY_EMPTY_ELEMENTDATA OZ) e17 0 b1 E_b1 [(.ref o9)] [] pd_10 d21_56 fun T19 _ _ X19 hQ19 => ?_
  obtain ⟨b19_0, k19_1, rfl, N19, K19, E_b1', F_modCount_b1', F_elementData_b1', F_size_b1', V_b19_0', Ov_k19_1', sz_b19_0'⟩ := hQ19
  replace N0 := Fr.app N0 N19
  have g_b19_0 := Nat.le_trans Z0 sz_b19_0'
  have sz_b19_0 := Nat.le_trans K0.1 sz_b19_0'
  have ne_b1_b19_0 := oNl E_b1.lt sz_b19_0'
  have ne_b6_0_b19_0 := oNl E_b6_0.lt sz_b19_0'
  replace E_b6_0 := E_b6_0.keep K19
  replace F_this_0_b6_0 := F_this_0_b6_0.keep K19 (ninS (Ne.symm ne_b1_b6_0) nin0)
  replace F_lastRet_b6_0 := F_lastRet_b6_0.keep K19 (ninS (Ne.symm ne_b1_b6_0) nin0)
  replace F_expectedModCount_b6_0 := F_expectedModCount_b6_0.keep K19 (ninS (Ne.symm ne_b1_b6_0) nin0)
  replace F_cursor_b6_0 := F_cursor_b6_0.keep K19 (ninS (Ne.symm ne_b1_b6_0) nin0)
  replace OZ := OZ.keep K19 (allS g_b1 all0)
  replace K0 := K0.trans K19 (allS (Or.inr sz_b1) all0)
  replace Z0 := Nat.le_trans Z0 K19.1
  replace E_b1 := E_b1'
  have F_modCount_b1 : Fld Z T19.heap b1 c4_ "modCount" "I" (.int (1 : Int32)) := F_modCount_b1'
  have F_elementData_b1 := F_elementData_b1'
  have F_size_b1 := F_size_b1'
  have V_b19_0 := V_b19_0'
  have Ov_k19_1 := Ov_k19_1'
  refine oB_ (tF_ T19 (mkF m 62 (lA15_ o0 o1 b1 b6_0 o5) [])) (fun t k => ?_) ?_
  · refine XS.pop X19.here hx rfl (hb hby d21_61) rfl rfl ?_
    exact k
  refine oH X19 H r21_62_18 19 [(.ref b6_0)] ?_
  refine ocF X19 H (wb22_ hw) (rm24_56 hw Z0 F_this_0_b6_0 F_cursor_b6_0 (F_size_o3.keep K0 nin0) hp4) (rfl : T19.heap = _) 0 b6_0 E_b6_0 [] [] pd_19 d21_19 fun T21 _ _ X21 hQ21 => ?_
  obtain ⟨rfl, N21, e21⟩ := hQ21
  replace N0 := Fr.app N0 N21
  refine oIN X21 H oD0 d21_24 (lA15_ o0 o1 b1 b6_0 o5) [] rfl ((if0 _ _).trans (feq (by decide : ¬ ((1 : Int32) = (0 : Int32)))).1) ?_
  refine oH X21 H r21_27_27 28 [(.ref b6_0)] ?_
  refine ocF X21 H (wb32_ hw) (rm25_78 hw Z0 g_b6_0 E_b6_0 F_this_0_b6_0 F_lastRet_b6_0 F_expectedModCount_b6_0 F_cursor_b6_0 (F_modCount_o3.keep K0 nin0) (F_elementData_o3.keep K0 nin0) (F_size_o3.keep K0 nin0) (V_o4.keep K0 nin0) (oNl E_o3.lt sz_b6_0) hp5) e21 0 b6_0 E_b6_0 [] [] pd_20 d21_28 fun T23 _ _ X23 hQ23 => ?_
  obtain ⟨rfl, N23, K23, E_b6_0', F_this_0_b6_0', F_lastRet_b6_0', F_expectedModCount_b6_0', F_cursor_b6_0'⟩ := hQ23
  replace N0 := Fr.app N0 N23
  replace E_b1 := E_b1.keep K23
  replace F_modCount_b1 := F_modCount_b1.keep K23 (ninS ne_b1_b6_0 nin0)
  replace F_elementData_b1 := F_elementData_b1.keep K23 (ninS ne_b1_b6_0 nin0)
  replace F_size_b1 := F_size_b1.keep K23 (ninS ne_b1_b6_0 nin0)
  replace V_b19_0 := V_b19_0.keep K23 (ninS (Ne.symm ne_b6_0_b19_0) nin0)
  replace OZ := OZ.keep K23 (allS g_b6_0 all0)
  replace K0 := K0.trans K23 (allS (Or.inr sz_b6_0) all0)
  replace Z0 := Nat.le_trans Z0 K23.1
  replace E_b6_0 := E_b6_0'
  have F_this_0_b6_0 := F_this_0_b6_0'
  have F_lastRet_b6_0 := F_lastRet_b6_0'
  have F_expectedModCount_b6_0 := F_expectedModCount_b6_0'
  have F_cursor_b6_0 := F_cursor_b6_0'
  refine oKst X23 H (hV hw 187) rfl (Ins.self (E_o6.keep K0)) d21_33 fun T24 X24 e24 => ?_
  refine oG X24 H r21_36_38 40 (lA15_ o0 o1 b1 b6_0 o6) [(.ref o6)] ?_
  refine ocV X24 H (wb33_ hw) (rm27_59 hw Z0 (F_name_o6.keep K0 nin0)) e24 0 o6 (E_o6.keep K0) [] [] pd_21 d21_40 fun T26 _ _ X26 hQ26 => ?_
  obtain ⟨rfl, N26, e26⟩ := hQ26
  replace N0 := Fr.app N0 N26
  refine oG X26 H r21_43_43 44 (lA15_ o0 o1 b1 b6_0 o6) [(.ref o1), (.ref o10)] ?_
  refine ocV X26 H (wb34_ hw) (rm28_eq hw Z0 OZ S_COMPACT_STRINGS hp3 (T_o10.keep K0) (T_o1.keep K0) ne_o10_o1 hp6) e26 0 o10 (own_Str.exa (T_o10.keep K0)) [(.ref o1)] [] pd_10 d21_44 fun T28 _ _ X28 hQ28 => ?_
  obtain ⟨rfl, N28, e28⟩ := hQ28
  replace N0 := Fr.app N0 N28
  refine oIN X28 H oD0 d21_47 (lA15_ o0 o1 b1 b6_0 o6) [] rfl ((if0 _ _).trans (feq (by decide : ¬ ((1 : Int32) = (0 : Int32)))).1) ?_
  refine oH X28 H r21_50_51 53 [(.ref o6), (.ref b1)] ?_
  refine ocV X28 H (wb35_ hw) (rm31_60 hw Z0 (F_value_o6.keep K0 nin0)) e28 1 o6 (E_o6.keep K0) [] [(.ref b1)] pd_20 d21_53 fun T30 _ _ X30 hQ30 => ?_
  obtain ⟨rfl, N30, e30⟩ := hQ30
  replace N0 := Fr.app N0 N30
  refine ocF X30 H (wb36_ hw) (rm15_70 hw Z0 g_b1 E_b1 F_modCount_b1 F_elementData_b1 F_size_b1 (E_o11.keep K0) g_b19_0 V_b19_0 Ov_k19_1) e30 0 b1 E_b1 [(.ref o11)] [] pd_10 d21_56 fun T32 _ _ X32 hQ32 => ?_
  obtain ⟨rfl, N32, K32, E_b1', F_modCount_b1', F_elementData_b1', F_size_b1', V_b19_0'⟩ := hQ32
  replace N0 := Fr.app N0 N32
  replace E_b6_0 := E_b6_0.keep K32
  replace F_this_0_b6_0 := F_this_0_b6_0.keep K32 (ninS (Ne.symm ne_b1_b6_0) (ninS ne_b6_0_b19_0 nin0))
  replace F_lastRet_b6_0 := F_lastRet_b6_0.keep K32 (ninS (Ne.symm ne_b1_b6_0) (ninS ne_b6_0_b19_0 nin0))
  replace F_expectedModCount_b6_0 := F_expectedModCount_b6_0.keep K32 (ninS (Ne.symm ne_b1_b6_0) (ninS ne_b6_0_b19_0 nin0))
  replace F_cursor_b6_0 := F_cursor_b6_0.keep K32 (ninS (Ne.symm ne_b1_b6_0) (ninS ne_b6_0_b19_0 nin0))
  replace OZ := OZ.keep K32 (allS g_b1 (allS g_b19_0 all0))
  replace K0 := K0.trans K32 (allS (Or.inr sz_b1) (allS (Or.inr sz_b19_0) all0))
  replace Z0 := Nat.le_trans Z0 K32.1
  replace E_b1 := E_b1'
  have F_modCount_b1 : Fld Z T32.heap b1 c4_ "modCount" "I" (.int (2 : Int32)) := F_modCount_b1'
  have F_elementData_b1 := F_elementData_b1'
  have F_size_b1 := F_size_b1'
  have V_b19_0 := V_b19_0'
  refine oB_ (tF_ T32 (mkF m 62 (lA15_ o0 o1 b1 b6_0 o6) [])) (fun t k => ?_) ?_
  · refine XS.pop X32.here hx rfl (hb hby d21_61) rfl rfl ?_
    exact k
  refine oH X32 H r21_62_18 19 [(.ref b6_0)] ?_
  refine ocF X32 H (wb22_ hw) (rm24_56 hw Z0 F_this_0_b6_0 F_cursor_b6_0 (F_size_o3.keep K0 nin0) hp7) (rfl : T32.heap = _) 0 b6_0 E_b6_0 [] [] pd_19 d21_19 fun T34 _ _ X34 hQ34 => ?_
  obtain ⟨rfl, N34, e34⟩ := hQ34
  replace N0 := Fr.app N0 N34
  refine oIN X34 H oD0 d21_24 (lA15_ o0 o1 b1 b6_0 o6) [] rfl ((if0 _ _).trans (feq (by decide : ¬ ((1 : Int32) = (0 : Int32)))).1) ?_
  refine oH X34 H r21_27_27 28 [(.ref b6_0)] ?_
  refine ocF X34 H (wb32_ hw) (rm25_79 hw Z0 g_b6_0 E_b6_0 F_this_0_b6_0 F_lastRet_b6_0 F_expectedModCount_b6_0 F_cursor_b6_0 (F_modCount_o3.keep K0 nin0) (F_elementData_o3.keep K0 nin0) (F_size_o3.keep K0 nin0) (V_o4.keep K0 nin0) (oNl E_o3.lt sz_b6_0) hp8) e34 0 b6_0 E_b6_0 [] [] pd_20 d21_28 fun T36 _ _ X36 hQ36 => ?_
  obtain ⟨rfl, N36, K36, E_b6_0', F_this_0_b6_0', _, _, F_cursor_b6_0'⟩ := hQ36
  replace N0 := Fr.app N0 N36
  replace E_b1 := E_b1.keep K36
  replace F_modCount_b1 := F_modCount_b1.keep K36 (ninS ne_b1_b6_0 nin0)
  replace F_elementData_b1 := F_elementData_b1.keep K36 (ninS ne_b1_b6_0 nin0)
  replace F_size_b1 := F_size_b1.keep K36 (ninS ne_b1_b6_0 nin0)
  replace V_b19_0 := V_b19_0.keep K36 (ninS (Ne.symm ne_b6_0_b19_0) nin0)
  replace OZ := OZ.keep K36 (allS g_b6_0 all0)
  replace K0 := K0.trans K36 (allS (Or.inr sz_b6_0) all0)
  replace Z0 := Nat.le_trans Z0 K36.1
  replace E_b6_0 := E_b6_0'
  have F_this_0_b6_0 := F_this_0_b6_0'
  have F_cursor_b6_0 := F_cursor_b6_0'
  refine oKst X36 H (hV hw 187) rfl (Ins.self (E_o7.keep K0)) d21_33 fun T37 X37 e37 => ?_
  refine oG X37 H r21_36_38 40 (lA15_ o0 o1 b1 b6_0 o7) [(.ref o7)] ?_
  refine ocV X37 H (wb33_ hw) (rm27_59 hw Z0 (F_name_o7.keep K0 nin0)) e37 0 o7 (E_o7.keep K0) [] [] pd_21 d21_40 fun T39 _ _ X39 hQ39 => ?_
  obtain ⟨rfl, N39, e39⟩ := hQ39
  replace N0 := Fr.app N0 N39
  refine oG X39 H r21_43_43 44 (lA15_ o0 o1 b1 b6_0 o7) [(.ref o1), (.ref o12)] ?_
  refine ocV X39 H (wb34_ hw) (rm28_eq hw Z0 OZ S_COMPACT_STRINGS hp3 (T_o12.keep K0) (T_o1.keep K0) ne_o12_o1 hp9) e39 0 o12 (own_Str.exa (T_o12.keep K0)) [(.ref o1)] [] pd_10 d21_44 fun T41 _ _ X41 hQ41 => ?_
  obtain ⟨rfl, N41, e41⟩ := hQ41
  replace N0 := Fr.app N0 N41
  refine oIN X41 H oD0 d21_47 (lA15_ o0 o1 b1 b6_0 o7) [] rfl ((if0 _ _).trans (feq (by decide : ¬ ((1 : Int32) = (0 : Int32)))).1) ?_
  refine oH X41 H r21_50_51 53 [(.ref o7), (.ref b1)] ?_
  refine ocV X41 H (wb35_ hw) (rm31_60 hw Z0 (F_value_o7.keep K0 nin0)) e41 1 o7 (E_o7.keep K0) [] [(.ref b1)] pd_20 d21_53 fun T43 _ _ X43 hQ43 => ?_
  obtain ⟨rfl, N43, e43⟩ := hQ43
  replace N0 := Fr.app N0 N43
  refine ocF X43 H (wb36_ hw) (rm15_81 hw Z0 g_b1 E_b1 F_modCount_b1 F_elementData_b1 F_size_b1 (E_o13.keep K0) g_b19_0 V_b19_0 Ov_k19_1) e43 0 b1 E_b1 [(.ref o13)] [] pd_10 d21_56 fun T45 _ _ X45 hQ45 => ?_
  obtain ⟨rfl, N45, K45, E_b1', F_modCount_b1', F_elementData_b1', F_size_b1', V_b19_0'⟩ := hQ45
  replace N0 := Fr.app N0 N45
  replace E_b6_0 := E_b6_0.keep K45
  replace F_this_0_b6_0 := F_this_0_b6_0.keep K45 (ninS (Ne.symm ne_b1_b6_0) (ninS ne_b6_0_b19_0 nin0))
  replace F_cursor_b6_0 := F_cursor_b6_0.keep K45 (ninS (Ne.symm ne_b1_b6_0) (ninS ne_b6_0_b19_0 nin0))
  replace K0 := K0.trans K45 (allS (Or.inr sz_b1) (allS (Or.inr sz_b19_0) all0))
  replace Z0 := Nat.le_trans Z0 K45.1
  replace E_b1 := E_b1'
  have F_modCount_b1 : Fld Z T45.heap b1 c4_ "modCount" "I" (.int (3 : Int32)) := F_modCount_b1'
  have F_elementData_b1 := F_elementData_b1'
  have F_size_b1 := F_size_b1'
  have V_b19_0 := V_b19_0'
  refine oB_ (tF_ T45 (mkF m 62 (lA15_ o0 o1 b1 b6_0 o7) [])) (fun t k => ?_) ?_
  · refine XS.pop X45.here hx rfl (hb hby d21_61) rfl rfl ?_
    exact k
  refine oH X45 H r21_62_18 19 [(.ref b6_0)] ?_
  refine ocF X45 H (wb22_ hw) (rm24_48 hw Z0 F_this_0_b6_0 F_cursor_b6_0 (F_size_o3.keep K0 nin0) hp10) (rfl : T45.heap = _) 0 b6_0 E_b6_0 [] [] pd_19 d21_19 fun T47 _ _ X47 hQ47 => ?_
  obtain ⟨rfl, N47, e47⟩ := hQ47
  replace N0 := Fr.app N0 N47
  refine oIY X47 H oD0 d21_24 65 (lA15_ o0 o1 b1 b6_0 o7) [] rfl ((if0 _ _).trans (teq (by decide : (0 : Int32) = (0 : Int32))).1) ?_
  refine oH X47 H r21_65_65 66 [(.ref b1)] ?_
  exact own_retR X47 Blk hx Bret rfl rfl rfl (hb hby d21_66) (by
      try rw [show T47.heap = T45.heap from e47]
      exact ⟨b1, b19_0, k19_1, rfl, N0, K0, E_b1, F_modCount_b1, F_elementData_b1, F_size_b1, V_b19_0, Ov_k19_1, sz_b1, sz_b19_0, ne_b1_b19_0⟩) dE_ dE_

set_option maxRecDepth 65536 in
set_option maxHeartbeats 40000000 in
theorem rm21_83 (hw : oW_ a0 Z) (Z0 : n0 ≤ h0.size) (F_members_o0 : Fld Z h0 o0 c7_ "members" c19_ (.ref o3)) (T_o1 : own_Str Z h0 o1 l0) (V_o2 : Arv Z h0 o2 k0 (.object c1_) (0 : Int32) [] .null) (E_o3 : Exa Z h0 o3 c0_) (F_modCount_o3 : Fld Z h0 o3 c4_ "modCount" "I" (.int i0)) (F_elementData_o3 : Fld Z h0 o3 c0_ "elementData" c3_ (.ref o4)) (F_size_o3 : Fld Z h0 o3 c0_ "size" "I" (.int i1)) (V_o4 : Arv Z h0 o4 k1 (.object c1_) (10 : Int32) [(.ref o5), (.ref o6), (.ref o7)] .null) (E_o5 : Exa Z h0 o5 c6_) (F_name_o5 : Fld Z h0 o5 c6_ "name" c9_ (.ref o8)) (F_value_o5 : Fld Z h0 o5 c6_ "value" c11_ (.ref o9)) (E_o6 : Exa Z h0 o6 c6_) (F_name_o6 : Fld Z h0 o6 c6_ "name" c9_ (.ref o10)) (F_value_o6 : Fld Z h0 o6 c6_ "value" c11_ (.ref o11)) (E_o7 : Exa Z h0 o7 c6_) (F_name_o7 : Fld Z h0 o7 c6_ "name" c9_ (.ref o12)) (T_o8 : own_Str Z h0 o8 l1) (E_o9 : Exa Z h0 o9 c8_) (T_o10 : own_Str Z h0 o10 l2) (E_o11 : Exa Z h0 o11 c8_) (T_o12 : own_Str Z h0 o12 l3) (S_DEFAULTCAPACITY_EMPTY_ELEMENTDATA : Sta Z Z.heap c0_ c15_ c3_ (.ref o2)) (S_COMPACT_STRINGS : Sta Z Z.heap c2_ c13_ "Z" (.int i2)) (OZ : Old Z n0 h0) (hp0 : ¬ ((0 : Int32) = i1)) (hp1 : (0 : Int32) < i1) (hp2 : l1 = l0) (hp3 : ¬ (i2 = (0 : Int32))) (ne_o8_o1 : o8 ≠ o1) (hp4 : ¬ ((1 : Int32) = i1)) (hp5 : (1 : Int32) < i1) (hp6 : l2 = l0) (ne_o10_o1 : o10 ≠ o1) (hp7 : ¬ ((2 : Int32) = i1)) (hp8 : (2 : Int32) < i1) (hp9 : ¬ (l3 = l0)) (ne_o12_o1 : o12 ≠ o1) (hp10 : (3 : Int32) = i1) :
    oM l y13_ prog_24_method_2_code 5 (some (.object c12_)) ws (rM_ 5 3 17 69) #[(.ref o0), (.ref o1)] Z h0 (fun v h L => ∃ b1 : Addr, ∃ b19_0 : Addr, ∃ k19_1 : ClassId, v = some (.ref b1) ∧ Fr n0 L ∧ Keep h0 h [] ∧ Exa Z h b1 c0_ ∧ Fld Z h b1 c4_ "modCount" "I" (.int (2 : Int32)) ∧ Fld Z h b1 c0_ "elementData" c3_ (.ref b19_0) ∧ Fld Z h b1 c0_ "size" "I" (.int (2 : Int32)) ∧ Arv Z h b19_0 k19_1 (.object c1_) (10 : Int32) [(.ref o9), (.ref o11)] .null ∧ Ovr Z k19_1 c1_ ∧ h0.size ≤ b1 ∧ h0.size ≤ b19_0 ∧ b1 ≠ b19_0) := by
  refine own_body c7_ (plainFor_of_name pn_21) (fun m => ef_21 m o0 o1) fun p e s m below meth c s₁ X0 H hnm Bret Blk e0 => ?_
  obtain ⟨hx, _, _, _, hby⟩ := id H
  have N0 := Fr.nil n0
  have K0 : Keep h0 h0 [] := Keep.refl h0 _
  refine oNw X0 H (hV hw 136) (hV hw 48) (hV hw 49) e0 d21_0 fun T1 h1 b1 X1 e1 E1 u1 E_b1 D1 => ?_
  have g_b1 := Nat.le_trans Z0 u1
  have sz_b1 := Nat.le_trans K0.1 u1
  replace OZ := OZ.ext E1
  replace K0 := K0.ext E1
  replace Z0 := Nat.le_trans Z0 E1.1
  have F_modCount_b1 : Fld Z h1 b1 c4_ "modCount" "I" oZ := D1 (Or.inl (hV hw 67)) (ty := .int) dE_
  have F_elementData_b1 : Fld Z h1 b1 c0_ "elementData" c3_ .null := D1 (Or.inl (hV hw 70)) (ty := (.array (.object c1_))) dE_
  have F_size_b1 : Fld Z h1 b1 c0_ "size" "I" oZ := D1 (Or.inl (hV hw 99)) (ty := .int) dE_
  refine oG X1 H r21_3_3 4 (lA12_ o0 o1) [(.ref b1), (.ref b1)] ?_
  refine ocI X1 H (wb19_ hw) (rm10_43 hw Z0 g_b1 E_b1 F_modCount_b1 F_elementData_b1 F_size_b1 S_DEFAULTCAPACITY_EMPTY_ELEMENTDATA OZ) e1 1 b1 [] [(.ref b1)] pd_3 d21_4 fun T3 _ _ X3 hQ3 => ?_
  obtain ⟨rfl, N3, K3, E_b1', F_modCount_b1', F_elementData_b1', F_size_b1'⟩ := hQ3
  replace N0 := Fr.app N0 N3
  replace OZ := OZ.keep K3 (allS g_b1 all0)
  replace K0 := K0.trans K3 (allS (Or.inr sz_b1) all0)
  replace Z0 := Nat.le_trans Z0 K3.1
  replace E_b1 := E_b1'
  have F_modCount_b1 := F_modCount_b1'
  have F_elementData_b1 := F_elementData_b1'
  have F_size_b1 := F_size_b1'
  refine oG X3 H r21_7_8 9 (lA13_ o0 o1 b1) [(.ref o0)] ?_
  refine oGf X3 H (hV hw 129) rfl (F_members_o0.keep K0 nin0) d21_9 fun T4 X4 e4 => ?_
  refine ocF X4 H (wb21_ hw) (rm22_47 hw Z0 (F_modCount_o3.keep K0 nin0)) e4 0 o3 (E_o3.keep K0) [] [] pd_17 d21_12 fun T6 _ _ X6 hQ6 => ?_
  obtain ⟨b6_0, rfl, N6, K6, E_b6_0', F_this_0_b6_0', F_lastRet_b6_0', F_expectedModCount_b6_0', F_cursor_b6_0', sz_b6_0'⟩ := hQ6
  replace N0 := Fr.app N0 N6
  have g_b6_0 := Nat.le_trans Z0 sz_b6_0'
  have sz_b6_0 := Nat.le_trans K0.1 sz_b6_0'
  have ne_b1_b6_0 := oNl E_b1.lt sz_b6_0'
  replace E_b1 := E_b1.keep K6
  replace F_modCount_b1 := F_modCount_b1.keep K6 nin0
  replace F_elementData_b1 := F_elementData_b1.keep K6 nin0
  replace F_size_b1 := F_size_b1.keep K6 nin0
  replace OZ := OZ.keep K6 all0
  replace K0 := K0.trans K6 all0
  replace Z0 := Nat.le_trans Z0 K6.1
  have E_b6_0 := E_b6_0'
  have F_this_0_b6_0 := F_this_0_b6_0'
  have F_lastRet_b6_0 := F_lastRet_b6_0'
  have F_expectedModCount_b6_0 := F_expectedModCount_b6_0'
  have F_cursor_b6_0 := F_cursor_b6_0'
  refine oG X6 H r21_17_18 19 (lA14_ o0 o1 b1 b6_0) [(.ref b6_0)] ?_
  refine ocF X6 H (wb22_ hw) (rm24_56 hw Z0 F_this_0_b6_0 F_cursor_b6_0 (F_size_o3.keep K0 nin0) hp0) (rfl : T6.heap = _) 0 b6_0 E_b6_0 [] [] pd_19 d21_19 fun T8 _ _ X8 hQ8 => ?_
  obtain ⟨rfl, N8, e8⟩ := hQ8
  replace N0 := Fr.app N0 N8
  refine oIN X8 H oD0 d21_24 (lA14_ o0 o1 b1 b6_0) [] rfl ((if0 _ _).trans (feq (by decide : ¬ ((1 : Int32) = (0 : Int32)))).1) ?_
  refine oH X8 H r21_27_27 28 [(.ref b6_0)] ?_
  refine ocF X8 H (wb32_ hw) (rm25_77 hw Z0 g_b6_0 E_b6_0 F_this_0_b6_0 F_lastRet_b6_0 F_expectedModCount_b6_0 F_cursor_b6_0 (F_modCount_o3.keep K0 nin0) (F_elementData_o3.keep K0 nin0) (F_size_o3.keep K0 nin0) (V_o4.keep K0 nin0) (oNl F_modCount_o3.lt sz_b6_0) hp1) e8 0 b6_0 E_b6_0 [] [] pd_20 d21_28 fun T10 _ _ X10 hQ10 => ?_
  obtain ⟨rfl, N10, K10, E_b6_0', F_this_0_b6_0', F_lastRet_b6_0', F_expectedModCount_b6_0', F_cursor_b6_0'⟩ := hQ10
  replace N0 := Fr.app N0 N10
  replace E_b1 := E_b1.keep K10
  replace F_modCount_b1 := F_modCount_b1.keep K10 (ninS ne_b1_b6_0 nin0)
  replace F_elementData_b1 := F_elementData_b1.keep K10 (ninS ne_b1_b6_0 nin0)
  replace F_size_b1 := F_size_b1.keep K10 (ninS ne_b1_b6_0 nin0)
  replace OZ := OZ.keep K10 (allS g_b6_0 all0)
  replace K0 := K0.trans K10 (allS (Or.inr sz_b6_0) all0)
  replace Z0 := Nat.le_trans Z0 K10.1
  replace E_b6_0 := E_b6_0'
  have F_this_0_b6_0 := F_this_0_b6_0'
  have F_lastRet_b6_0 := F_lastRet_b6_0'
  have F_expectedModCount_b6_0 := F_expectedModCount_b6_0'
  have F_cursor_b6_0 := F_cursor_b6_0'
  refine oKst X10 H (hV hw 187) rfl (Ins.self (E_o5.keep K0)) d21_33 fun T11 X11 e11 => ?_
  refine oG X11 H r21_36_38 40 (lA15_ o0 o1 b1 b6_0 o5) [(.ref o5)] ?_
  refine ocV X11 H (wb33_ hw) (rm27_59 hw Z0 (F_name_o5.keep K0 nin0)) e11 0 o5 (E_o5.keep K0) [] [] pd_21 d21_40 fun T13 _ _ X13 hQ13 => ?_
  obtain ⟨rfl, N13, e13⟩ := hQ13
  replace N0 := Fr.app N0 N13
  refine oG X13 H r21_43_43 44 (lA15_ o0 o1 b1 b6_0 o5) [(.ref o1), (.ref o8)] ?_
  refine ocV X13 H (wb34_ hw) (rm28_eq hw Z0 OZ S_COMPACT_STRINGS hp3 (T_o8.keep K0) (T_o1.keep K0) ne_o8_o1 hp2) e13 0 o8 (own_Str.exa (T_o8.keep K0)) [(.ref o1)] [] pd_10 d21_44 fun T15 _ _ X15 hQ15 => ?_
  obtain ⟨rfl, N15, e15⟩ := hQ15
  replace N0 := Fr.app N0 N15
  refine oIN X15 H oD0 d21_47 (lA15_ o0 o1 b1 b6_0 o5) [] rfl ((if0 _ _).trans (feq (by decide : ¬ ((1 : Int32) = (0 : Int32)))).1) ?_
  refine oH X15 H r21_50_51 53 [(.ref o5), (.ref b1)] ?_
  refine ocV X15 H (wb35_ hw) (rm31_60 hw Z0 (F_value_o5.keep K0 nin0)) e15 1 o5 (E_o5.keep K0) [] [(.ref b1)] pd_20 d21_53 fun T17 _ _ X17 hQ17 => ?_
  obtain ⟨rfl, N17, e17⟩ := hQ17
  replace N0 := Fr.app N0 N17
  refine ocF X17 H (wb36_ hw) (rm15_62 hw Z0 g_b1 E_b1 F_modCount_b1 F_elementData_b1 F_size_b1 (E_o9.keep K0) (V_o2.keep K0 nin0) S_DEFAULTCAPACITY_EMPTY_ELEMENTDATA OZ) e17 0 b1 E_b1 [(.ref o9)] [] pd_10 d21_56 fun T19 _ _ X19 hQ19 => ?_
  obtain ⟨b19_0, k19_1, rfl, N19, K19, E_b1', F_modCount_b1', F_elementData_b1', F_size_b1', V_b19_0', Ov_k19_1', sz_b19_0'⟩ := hQ19
  replace N0 := Fr.app N0 N19
  have g_b19_0 := Nat.le_trans Z0 sz_b19_0'
  have sz_b19_0 := Nat.le_trans K0.1 sz_b19_0'
  have ne_b1_b19_0 := oNl E_b1.lt sz_b19_0'
  have ne_b6_0_b19_0 := oNl E_b6_0.lt sz_b19_0'
  replace E_b6_0 := E_b6_0.keep K19
  replace F_this_0_b6_0 := F_this_0_b6_0.keep K19 (ninS (Ne.symm ne_b1_b6_0) nin0)
  replace F_lastRet_b6_0 := F_lastRet_b6_0.keep K19 (ninS (Ne.symm ne_b1_b6_0) nin0)
  replace F_expectedModCount_b6_0 := F_expectedModCount_b6_0.keep K19 (ninS (Ne.symm ne_b1_b6_0) nin0)
  replace F_cursor_b6_0 := F_cursor_b6_0.keep K19 (ninS (Ne.symm ne_b1_b6_0) nin0)
  replace OZ := OZ.keep K19 (allS g_b1 all0)
  replace K0 := K0.trans K19 (allS (Or.inr sz_b1) all0)
  replace Z0 := Nat.le_trans Z0 K19.1
  replace E_b1 := E_b1'
  have F_modCount_b1 : Fld Z T19.heap b1 c4_ "modCount" "I" (.int (1 : Int32)) := F_modCount_b1'
  have F_elementData_b1 := F_elementData_b1'
  have F_size_b1 := F_size_b1'
  have V_b19_0 := V_b19_0'
  have Ov_k19_1 := Ov_k19_1'
  refine oB_ (tF_ T19 (mkF m 62 (lA15_ o0 o1 b1 b6_0 o5) [])) (fun t k => ?_) ?_
  · refine XS.pop X19.here hx rfl (hb hby d21_61) rfl rfl ?_
    exact k
  refine oH X19 H r21_62_18 19 [(.ref b6_0)] ?_
  refine ocF X19 H (wb22_ hw) (rm24_56 hw Z0 F_this_0_b6_0 F_cursor_b6_0 (F_size_o3.keep K0 nin0) hp4) (rfl : T19.heap = _) 0 b6_0 E_b6_0 [] [] pd_19 d21_19 fun T21 _ _ X21 hQ21 => ?_
  obtain ⟨rfl, N21, e21⟩ := hQ21
  replace N0 := Fr.app N0 N21
  refine oIN X21 H oD0 d21_24 (lA15_ o0 o1 b1 b6_0 o5) [] rfl ((if0 _ _).trans (feq (by decide : ¬ ((1 : Int32) = (0 : Int32)))).1) ?_
  refine oH X21 H r21_27_27 28 [(.ref b6_0)] ?_
  refine ocF X21 H (wb32_ hw) (rm25_78 hw Z0 g_b6_0 E_b6_0 F_this_0_b6_0 F_lastRet_b6_0 F_expectedModCount_b6_0 F_cursor_b6_0 (F_modCount_o3.keep K0 nin0) (F_elementData_o3.keep K0 nin0) (F_size_o3.keep K0 nin0) (V_o4.keep K0 nin0) (oNl F_modCount_o3.lt sz_b6_0) hp5) e21 0 b6_0 E_b6_0 [] [] pd_20 d21_28 fun T23 _ _ X23 hQ23 => ?_
  obtain ⟨rfl, N23, K23, E_b6_0', F_this_0_b6_0', F_lastRet_b6_0', F_expectedModCount_b6_0', F_cursor_b6_0'⟩ := hQ23
  replace N0 := Fr.app N0 N23
  replace E_b1 := E_b1.keep K23
  replace F_modCount_b1 := F_modCount_b1.keep K23 (ninS ne_b1_b6_0 nin0)
  replace F_elementData_b1 := F_elementData_b1.keep K23 (ninS ne_b1_b6_0 nin0)
  replace F_size_b1 := F_size_b1.keep K23 (ninS ne_b1_b6_0 nin0)
  replace V_b19_0 := V_b19_0.keep K23 (ninS (Ne.symm ne_b6_0_b19_0) nin0)
  replace OZ := OZ.keep K23 (allS g_b6_0 all0)
  replace K0 := K0.trans K23 (allS (Or.inr sz_b6_0) all0)
  replace Z0 := Nat.le_trans Z0 K23.1
  replace E_b6_0 := E_b6_0'
  have F_this_0_b6_0 := F_this_0_b6_0'
  have F_lastRet_b6_0 := F_lastRet_b6_0'
  have F_expectedModCount_b6_0 := F_expectedModCount_b6_0'
  have F_cursor_b6_0 := F_cursor_b6_0'
  refine oKst X23 H (hV hw 187) rfl (Ins.self (E_o6.keep K0)) d21_33 fun T24 X24 e24 => ?_
  refine oG X24 H r21_36_38 40 (lA15_ o0 o1 b1 b6_0 o6) [(.ref o6)] ?_
  refine ocV X24 H (wb33_ hw) (rm27_59 hw Z0 (F_name_o6.keep K0 nin0)) e24 0 o6 (E_o6.keep K0) [] [] pd_21 d21_40 fun T26 _ _ X26 hQ26 => ?_
  obtain ⟨rfl, N26, e26⟩ := hQ26
  replace N0 := Fr.app N0 N26
  refine oG X26 H r21_43_43 44 (lA15_ o0 o1 b1 b6_0 o6) [(.ref o1), (.ref o10)] ?_
  refine ocV X26 H (wb34_ hw) (rm28_eq hw Z0 OZ S_COMPACT_STRINGS hp3 (T_o10.keep K0) (T_o1.keep K0) ne_o10_o1 hp6) e26 0 o10 (own_Str.exa (T_o10.keep K0)) [(.ref o1)] [] pd_10 d21_44 fun T28 _ _ X28 hQ28 => ?_
  obtain ⟨rfl, N28, e28⟩ := hQ28
  replace N0 := Fr.app N0 N28
  refine oIN X28 H oD0 d21_47 (lA15_ o0 o1 b1 b6_0 o6) [] rfl ((if0 _ _).trans (feq (by decide : ¬ ((1 : Int32) = (0 : Int32)))).1) ?_
  refine oH X28 H r21_50_51 53 [(.ref o6), (.ref b1)] ?_
  refine ocV X28 H (wb35_ hw) (rm31_60 hw Z0 (F_value_o6.keep K0 nin0)) e28 1 o6 (E_o6.keep K0) [] [(.ref b1)] pd_20 d21_53 fun T30 _ _ X30 hQ30 => ?_
  obtain ⟨rfl, N30, e30⟩ := hQ30
  replace N0 := Fr.app N0 N30
  refine ocF X30 H (wb36_ hw) (rm15_70 hw Z0 g_b1 E_b1 F_modCount_b1 F_elementData_b1 F_size_b1 (E_o11.keep K0) g_b19_0 V_b19_0 Ov_k19_1) e30 0 b1 E_b1 [(.ref o11)] [] pd_10 d21_56 fun T32 _ _ X32 hQ32 => ?_
  obtain ⟨rfl, N32, K32, E_b1', F_modCount_b1', F_elementData_b1', F_size_b1', V_b19_0'⟩ := hQ32
  replace N0 := Fr.app N0 N32
  replace E_b6_0 := E_b6_0.keep K32
  replace F_this_0_b6_0 := F_this_0_b6_0.keep K32 (ninS (Ne.symm ne_b1_b6_0) (ninS ne_b6_0_b19_0 nin0))
  replace F_lastRet_b6_0 := F_lastRet_b6_0.keep K32 (ninS (Ne.symm ne_b1_b6_0) (ninS ne_b6_0_b19_0 nin0))
  replace F_expectedModCount_b6_0 := F_expectedModCount_b6_0.keep K32 (ninS (Ne.symm ne_b1_b6_0) (ninS ne_b6_0_b19_0 nin0))
  replace F_cursor_b6_0 := F_cursor_b6_0.keep K32 (ninS (Ne.symm ne_b1_b6_0) (ninS ne_b6_0_b19_0 nin0))
  replace OZ := OZ.keep K32 (allS g_b1 (allS g_b19_0 all0))
  replace K0 := K0.trans K32 (allS (Or.inr sz_b1) (allS (Or.inr sz_b19_0) all0))
  replace Z0 := Nat.le_trans Z0 K32.1
  replace E_b1 := E_b1'
  have F_modCount_b1 : Fld Z T32.heap b1 c4_ "modCount" "I" (.int (2 : Int32)) := F_modCount_b1'
  have F_elementData_b1 := F_elementData_b1'
  have F_size_b1 := F_size_b1'
  have V_b19_0 := V_b19_0'
  refine oB_ (tF_ T32 (mkF m 62 (lA15_ o0 o1 b1 b6_0 o6) [])) (fun t k => ?_) ?_
  · refine XS.pop X32.here hx rfl (hb hby d21_61) rfl rfl ?_
    exact k
  refine oH X32 H r21_62_18 19 [(.ref b6_0)] ?_
  refine ocF X32 H (wb22_ hw) (rm24_56 hw Z0 F_this_0_b6_0 F_cursor_b6_0 (F_size_o3.keep K0 nin0) hp7) (rfl : T32.heap = _) 0 b6_0 E_b6_0 [] [] pd_19 d21_19 fun T34 _ _ X34 hQ34 => ?_
  obtain ⟨rfl, N34, e34⟩ := hQ34
  replace N0 := Fr.app N0 N34
  refine oIN X34 H oD0 d21_24 (lA15_ o0 o1 b1 b6_0 o6) [] rfl ((if0 _ _).trans (feq (by decide : ¬ ((1 : Int32) = (0 : Int32)))).1) ?_
  refine oH X34 H r21_27_27 28 [(.ref b6_0)] ?_
  refine ocF X34 H (wb32_ hw) (rm25_79 hw Z0 g_b6_0 E_b6_0 F_this_0_b6_0 F_lastRet_b6_0 F_expectedModCount_b6_0 F_cursor_b6_0 (F_modCount_o3.keep K0 nin0) (F_elementData_o3.keep K0 nin0) (F_size_o3.keep K0 nin0) (V_o4.keep K0 nin0) (oNl F_modCount_o3.lt sz_b6_0) hp8) e34 0 b6_0 E_b6_0 [] [] pd_20 d21_28 fun T36 _ _ X36 hQ36 => ?_
  obtain ⟨rfl, N36, K36, E_b6_0', F_this_0_b6_0', _, _, F_cursor_b6_0'⟩ := hQ36
  replace N0 := Fr.app N0 N36
  replace E_b1 := E_b1.keep K36
  replace F_modCount_b1 := F_modCount_b1.keep K36 (ninS ne_b1_b6_0 nin0)
  replace F_elementData_b1 := F_elementData_b1.keep K36 (ninS ne_b1_b6_0 nin0)
  replace F_size_b1 := F_size_b1.keep K36 (ninS ne_b1_b6_0 nin0)
  replace V_b19_0 := V_b19_0.keep K36 (ninS (Ne.symm ne_b6_0_b19_0) nin0)
  replace OZ := OZ.keep K36 (allS g_b6_0 all0)
  replace K0 := K0.trans K36 (allS (Or.inr sz_b6_0) all0)
  replace Z0 := Nat.le_trans Z0 K36.1
  replace E_b6_0 := E_b6_0'
  have F_this_0_b6_0 := F_this_0_b6_0'
  have F_cursor_b6_0 := F_cursor_b6_0'
  refine oKst X36 H (hV hw 187) rfl (Ins.self (E_o7.keep K0)) d21_33 fun T37 X37 e37 => ?_
  refine oG X37 H r21_36_38 40 (lA15_ o0 o1 b1 b6_0 o7) [(.ref o7)] ?_
  refine ocV X37 H (wb33_ hw) (rm27_59 hw Z0 (F_name_o7.keep K0 nin0)) e37 0 o7 (E_o7.keep K0) [] [] pd_21 d21_40 fun T39 _ _ X39 hQ39 => ?_
  obtain ⟨rfl, N39, e39⟩ := hQ39
  replace N0 := Fr.app N0 N39
  refine oG X39 H r21_43_43 44 (lA15_ o0 o1 b1 b6_0 o7) [(.ref o1), (.ref o12)] ?_
  refine ocV X39 H (wb34_ hw) (rm28_ne hw Z0 OZ S_COMPACT_STRINGS hp3 (T_o12.keep K0) (T_o1.keep K0) ne_o12_o1 hp9) e39 0 o12 (own_Str.exa (T_o12.keep K0)) [(.ref o1)] [] pd_10 d21_44 fun T41 _ _ X41 hQ41 => ?_
  obtain ⟨rfl, N41, e41⟩ := hQ41
  replace N0 := Fr.app N0 N41
  refine oIY X41 H oD0 d21_47 62 (lA15_ o0 o1 b1 b6_0 o7) [] rfl ((if0 _ _).trans (teq (by decide : (0 : Int32) = (0 : Int32))).1) ?_
  refine oH X41 H r21_62_18 19 [(.ref b6_0)] ?_
  refine ocF X41 H (wb22_ hw) (rm24_48 hw Z0 F_this_0_b6_0 F_cursor_b6_0 (F_size_o3.keep K0 nin0) hp10) e41 0 b6_0 E_b6_0 [] [] pd_19 d21_19 fun T43 _ _ X43 hQ43 => ?_
  obtain ⟨rfl, N43, e43⟩ := hQ43
  replace N0 := Fr.app N0 N43
  refine oIY X43 H oD0 d21_24 65 (lA15_ o0 o1 b1 b6_0 o7) [] rfl ((if0 _ _).trans (teq (by decide : (0 : Int32) = (0 : Int32))).1) ?_
  refine oH X43 H r21_65_65 66 [(.ref b1)] ?_
  exact own_retR X43 Blk hx Bret rfl rfl rfl (hb hby d21_66) (by
      try rw [show T43.heap = T36.heap from e43]
      exact ⟨b1, b19_0, k19_1, rfl, N0, K0, E_b1, F_modCount_b1, F_elementData_b1, F_size_b1, V_b19_0, Ov_k19_1, sz_b1, sz_b19_0, ne_b1_b19_0⟩) dE_ dE_

set_option maxRecDepth 65536 in
set_option maxHeartbeats 40000000 in
theorem rm21_84 (hw : oW_ a0 Z) (Z0 : n0 ≤ h0.size) (F_members_o0 : Fld Z h0 o0 c7_ "members" c19_ (.ref o3)) (T_o1 : own_Str Z h0 o1 l0) (V_o2 : Arv Z h0 o2 k0 (.object c1_) (0 : Int32) [] .null) (E_o3 : Exa Z h0 o3 c0_) (F_modCount_o3 : Fld Z h0 o3 c4_ "modCount" "I" (.int i0)) (F_elementData_o3 : Fld Z h0 o3 c0_ "elementData" c3_ (.ref o4)) (F_size_o3 : Fld Z h0 o3 c0_ "size" "I" (.int i1)) (V_o4 : Arv Z h0 o4 k1 (.object c1_) (10 : Int32) [(.ref o5), (.ref o6), (.ref o7)] .null) (E_o5 : Exa Z h0 o5 c6_) (F_name_o5 : Fld Z h0 o5 c6_ "name" c9_ (.ref o8)) (F_value_o5 : Fld Z h0 o5 c6_ "value" c11_ (.ref o9)) (E_o6 : Exa Z h0 o6 c6_) (F_name_o6 : Fld Z h0 o6 c6_ "name" c9_ (.ref o10)) (E_o7 : Exa Z h0 o7 c6_) (F_name_o7 : Fld Z h0 o7 c6_ "name" c9_ (.ref o12)) (F_value_o7 : Fld Z h0 o7 c6_ "value" c11_ (.ref o13)) (T_o8 : own_Str Z h0 o8 l1) (E_o9 : Exa Z h0 o9 c8_) (T_o10 : own_Str Z h0 o10 l2) (T_o12 : own_Str Z h0 o12 l3) (E_o13 : Exa Z h0 o13 c8_) (S_DEFAULTCAPACITY_EMPTY_ELEMENTDATA : Sta Z Z.heap c0_ c15_ c3_ (.ref o2)) (S_COMPACT_STRINGS : Sta Z Z.heap c2_ c13_ "Z" (.int i2)) (OZ : Old Z n0 h0) (hp0 : ¬ ((0 : Int32) = i1)) (hp1 : (0 : Int32) < i1) (hp2 : l1 = l0) (hp3 : ¬ (i2 = (0 : Int32))) (ne_o8_o1 : o8 ≠ o1) (hp4 : ¬ ((1 : Int32) = i1)) (hp5 : (1 : Int32) < i1) (hp6 : ¬ (l2 = l0)) (ne_o10_o1 : o10 ≠ o1) (hp7 : ¬ ((2 : Int32) = i1)) (hp8 : (2 : Int32) < i1) (hp9 : l3 = l0) (ne_o12_o1 : o12 ≠ o1) (hp10 : (3 : Int32) = i1) :
    oM l y13_ prog_24_method_2_code 5 (some (.object c12_)) ws (rM_ 5 3 17 69) #[(.ref o0), (.ref o1)] Z h0 (fun v h L => ∃ b1 : Addr, ∃ b19_0 : Addr, ∃ k19_1 : ClassId, v = some (.ref b1) ∧ Fr n0 L ∧ Keep h0 h [] ∧ Exa Z h b1 c0_ ∧ Fld Z h b1 c4_ "modCount" "I" (.int (2 : Int32)) ∧ Fld Z h b1 c0_ "elementData" c3_ (.ref b19_0) ∧ Fld Z h b1 c0_ "size" "I" (.int (2 : Int32)) ∧ Arv Z h b19_0 k19_1 (.object c1_) (10 : Int32) [(.ref o9), (.ref o13)] .null ∧ Ovr Z k19_1 c1_ ∧ h0.size ≤ b1 ∧ h0.size ≤ b19_0 ∧ b1 ≠ b19_0) := by
  refine own_body c7_ (plainFor_of_name pn_21) (fun m => ef_21 m o0 o1) fun p e s m below meth c s₁ X0 H hnm Bret Blk e0 => ?_
  obtain ⟨hx, _, _, _, hby⟩ := id H
  have N0 := Fr.nil n0
  have K0 : Keep h0 h0 [] := Keep.refl h0 _
  refine oNw X0 H (hV hw 136) (hV hw 48) (hV hw 49) e0 d21_0 fun T1 h1 b1 X1 e1 E1 u1 E_b1 D1 => ?_
  have g_b1 := Nat.le_trans Z0 u1
  have sz_b1 := Nat.le_trans K0.1 u1
  replace OZ := OZ.ext E1
  replace K0 := K0.ext E1
  replace Z0 := Nat.le_trans Z0 E1.1
  have F_modCount_b1 : Fld Z h1 b1 c4_ "modCount" "I" oZ := D1 (Or.inl (hV hw 67)) (ty := .int) dE_
  have F_elementData_b1 : Fld Z h1 b1 c0_ "elementData" c3_ .null := D1 (Or.inl (hV hw 70)) (ty := (.array (.object c1_))) dE_
  have F_size_b1 : Fld Z h1 b1 c0_ "size" "I" oZ := D1 (Or.inl (hV hw 99)) (ty := .int) dE_
  refine oG X1 H r21_3_3 4 (lA12_ o0 o1) [(.ref b1), (.ref b1)] ?_
  refine ocI X1 H (wb19_ hw) (rm10_43 hw Z0 g_b1 E_b1 F_modCount_b1 F_elementData_b1 F_size_b1 S_DEFAULTCAPACITY_EMPTY_ELEMENTDATA OZ) e1 1 b1 [] [(.ref b1)] pd_3 d21_4 fun T3 _ _ X3 hQ3 => ?_
  obtain ⟨rfl, N3, K3, E_b1', F_modCount_b1', F_elementData_b1', F_size_b1'⟩ := hQ3
  replace N0 := Fr.app N0 N3
  replace OZ := OZ.keep K3 (allS g_b1 all0)
  replace K0 := K0.trans K3 (allS (Or.inr sz_b1) all0)
  replace Z0 := Nat.le_trans Z0 K3.1
  replace E_b1 := E_b1'
  have F_modCount_b1 := F_modCount_b1'
  have F_elementData_b1 := F_elementData_b1'
  have F_size_b1 := F_size_b1'
  refine oG X3 H r21_7_8 9 (lA13_ o0 o1 b1) [(.ref o0)] ?_
  refine oGf X3 H (hV hw 129) rfl (F_members_o0.keep K0 nin0) d21_9 fun T4 X4 e4 => ?_
  refine ocF X4 H (wb21_ hw) (rm22_47 hw Z0 (F_modCount_o3.keep K0 nin0)) e4 0 o3 (E_o3.keep K0) [] [] pd_17 d21_12 fun T6 _ _ X6 hQ6 => ?_
  obtain ⟨b6_0, rfl, N6, K6, E_b6_0', F_this_0_b6_0', F_lastRet_b6_0', F_expectedModCount_b6_0', F_cursor_b6_0', sz_b6_0'⟩ := hQ6
  replace N0 := Fr.app N0 N6
  have g_b6_0 := Nat.le_trans Z0 sz_b6_0'
  have sz_b6_0 := Nat.le_trans K0.1 sz_b6_0'
  have ne_b1_b6_0 := oNl E_b1.lt sz_b6_0'
  replace E_b1 := E_b1.keep K6
  replace F_modCount_b1 := F_modCount_b1.keep K6 nin0
  replace F_elementData_b1 := F_elementData_b1.keep K6 nin0
  replace F_size_b1 := F_size_b1.keep K6 nin0
  replace OZ := OZ.keep K6 all0
  replace K0 := K0.trans K6 all0
  replace Z0 := Nat.le_trans Z0 K6.1
  have E_b6_0 := E_b6_0'
  have F_this_0_b6_0 := F_this_0_b6_0'
  have F_lastRet_b6_0 := F_lastRet_b6_0'
  have F_expectedModCount_b6_0 := F_expectedModCount_b6_0'
  have F_cursor_b6_0 := F_cursor_b6_0'
  refine oG X6 H r21_17_18 19 (lA14_ o0 o1 b1 b6_0) [(.ref b6_0)] ?_
  refine ocF X6 H (wb22_ hw) (rm24_56 hw Z0 F_this_0_b6_0 F_cursor_b6_0 (F_size_o3.keep K0 nin0) hp0) (rfl : T6.heap = _) 0 b6_0 E_b6_0 [] [] pd_19 d21_19 fun T8 _ _ X8 hQ8 => ?_
  obtain ⟨rfl, N8, e8⟩ := hQ8
  replace N0 := Fr.app N0 N8
  refine oIN X8 H oD0 d21_24 (lA14_ o0 o1 b1 b6_0) [] rfl ((if0 _ _).trans (feq (by decide : ¬ ((1 : Int32) = (0 : Int32)))).1) ?_
  refine oH X8 H r21_27_27 28 [(.ref b6_0)] ?_
  refine ocF X8 H (wb32_ hw) (rm25_77 hw Z0 g_b6_0 E_b6_0 F_this_0_b6_0 F_lastRet_b6_0 F_expectedModCount_b6_0 F_cursor_b6_0 (F_modCount_o3.keep K0 nin0) (F_elementData_o3.keep K0 nin0) (F_size_o3.keep K0 nin0) (V_o4.keep K0 nin0) (oNl F_modCount_o3.lt sz_b6_0) hp1) e8 0 b6_0 E_b6_0 [] [] pd_20 d21_28 fun T10 _ _ X10 hQ10 => ?_
  obtain ⟨rfl, N10, K10, E_b6_0', F_this_0_b6_0', F_lastRet_b6_0', F_expectedModCount_b6_0', F_cursor_b6_0'⟩ := hQ10
  replace N0 := Fr.app N0 N10
  replace E_b1 := E_b1.keep K10
  replace F_modCount_b1 := F_modCount_b1.keep K10 (ninS ne_b1_b6_0 nin0)
  replace F_elementData_b1 := F_elementData_b1.keep K10 (ninS ne_b1_b6_0 nin0)
  replace F_size_b1 := F_size_b1.keep K10 (ninS ne_b1_b6_0 nin0)
  replace OZ := OZ.keep K10 (allS g_b6_0 all0)
  replace K0 := K0.trans K10 (allS (Or.inr sz_b6_0) all0)
  replace Z0 := Nat.le_trans Z0 K10.1
  replace E_b6_0 := E_b6_0'
  have F_this_0_b6_0 := F_this_0_b6_0'
  have F_lastRet_b6_0 := F_lastRet_b6_0'
  have F_expectedModCount_b6_0 := F_expectedModCount_b6_0'
  have F_cursor_b6_0 := F_cursor_b6_0'
  refine oKst X10 H (hV hw 187) rfl (Ins.self (E_o5.keep K0)) d21_33 fun T11 X11 e11 => ?_
  refine oG X11 H r21_36_38 40 (lA15_ o0 o1 b1 b6_0 o5) [(.ref o5)] ?_
  refine ocV X11 H (wb33_ hw) (rm27_59 hw Z0 (F_name_o5.keep K0 nin0)) e11 0 o5 (E_o5.keep K0) [] [] pd_21 d21_40 fun T13 _ _ X13 hQ13 => ?_
  obtain ⟨rfl, N13, e13⟩ := hQ13
  replace N0 := Fr.app N0 N13
  refine oG X13 H r21_43_43 44 (lA15_ o0 o1 b1 b6_0 o5) [(.ref o1), (.ref o8)] ?_
  refine ocV X13 H (wb34_ hw) (rm28_eq hw Z0 OZ S_COMPACT_STRINGS hp3 (T_o8.keep K0) (T_o1.keep K0) ne_o8_o1 hp2) e13 0 o8 (own_Str.exa (T_o8.keep K0)) [(.ref o1)] [] pd_10 d21_44 fun T15 _ _ X15 hQ15 => ?_
  obtain ⟨rfl, N15, e15⟩ := hQ15
  replace N0 := Fr.app N0 N15
  refine oIN X15 H oD0 d21_47 (lA15_ o0 o1 b1 b6_0 o5) [] rfl ((if0 _ _).trans (feq (by decide : ¬ ((1 : Int32) = (0 : Int32)))).1) ?_
  refine oH X15 H r21_50_51 53 [(.ref o5), (.ref b1)] ?_
  refine ocV X15 H (wb35_ hw) (rm31_60 hw Z0 (F_value_o5.keep K0 nin0)) e15 1 o5 (E_o5.keep K0) [] [(.ref b1)] pd_20 d21_53 fun T17 _ _ X17 hQ17 => ?_
  obtain ⟨rfl, N17, e17⟩ := hQ17
  replace N0 := Fr.app N0 N17
  refine ocF X17 H (wb36_ hw) (rm15_62 hw Z0 g_b1 E_b1 F_modCount_b1 F_elementData_b1 F_size_b1 (E_o9.keep K0) (V_o2.keep K0 nin0) S_DEFAULTCAPACITY_EMPTY_ELEMENTDATA OZ) e17 0 b1 E_b1 [(.ref o9)] [] pd_10 d21_56 fun T19 _ _ X19 hQ19 => ?_
  obtain ⟨b19_0, k19_1, rfl, N19, K19, E_b1', F_modCount_b1', F_elementData_b1', F_size_b1', V_b19_0', Ov_k19_1', sz_b19_0'⟩ := hQ19
  replace N0 := Fr.app N0 N19
  have g_b19_0 := Nat.le_trans Z0 sz_b19_0'
  have sz_b19_0 := Nat.le_trans K0.1 sz_b19_0'
  have ne_b1_b19_0 := oNl E_b1.lt sz_b19_0'
  have ne_b6_0_b19_0 := oNl E_b6_0.lt sz_b19_0'
  replace E_b6_0 := E_b6_0.keep K19
  replace F_this_0_b6_0 := F_this_0_b6_0.keep K19 (ninS (Ne.symm ne_b1_b6_0) nin0)
  replace F_lastRet_b6_0 := F_lastRet_b6_0.keep K19 (ninS (Ne.symm ne_b1_b6_0) nin0)
  replace F_expectedModCount_b6_0 := F_expectedModCount_b6_0.keep K19 (ninS (Ne.symm ne_b1_b6_0) nin0)
  replace F_cursor_b6_0 := F_cursor_b6_0.keep K19 (ninS (Ne.symm ne_b1_b6_0) nin0)
  replace OZ := OZ.keep K19 (allS g_b1 all0)
  replace K0 := K0.trans K19 (allS (Or.inr sz_b1) all0)
  replace Z0 := Nat.le_trans Z0 K19.1
  replace E_b1 := E_b1'
  have F_modCount_b1 : Fld Z T19.heap b1 c4_ "modCount" "I" (.int (1 : Int32)) := F_modCount_b1'
  have F_elementData_b1 := F_elementData_b1'
  have F_size_b1 := F_size_b1'
  have V_b19_0 := V_b19_0'
  have Ov_k19_1 := Ov_k19_1'
  refine oB_ (tF_ T19 (mkF m 62 (lA15_ o0 o1 b1 b6_0 o5) [])) (fun t k => ?_) ?_
  · refine XS.pop X19.here hx rfl (hb hby d21_61) rfl rfl ?_
    exact k
  refine oH X19 H r21_62_18 19 [(.ref b6_0)] ?_
  refine ocF X19 H (wb22_ hw) (rm24_56 hw Z0 F_this_0_b6_0 F_cursor_b6_0 (F_size_o3.keep K0 nin0) hp4) (rfl : T19.heap = _) 0 b6_0 E_b6_0 [] [] pd_19 d21_19 fun T21 _ _ X21 hQ21 => ?_
  obtain ⟨rfl, N21, e21⟩ := hQ21
  replace N0 := Fr.app N0 N21
  refine oIN X21 H oD0 d21_24 (lA15_ o0 o1 b1 b6_0 o5) [] rfl ((if0 _ _).trans (feq (by decide : ¬ ((1 : Int32) = (0 : Int32)))).1) ?_
  refine oH X21 H r21_27_27 28 [(.ref b6_0)] ?_
  refine ocF X21 H (wb32_ hw) (rm25_78 hw Z0 g_b6_0 E_b6_0 F_this_0_b6_0 F_lastRet_b6_0 F_expectedModCount_b6_0 F_cursor_b6_0 (F_modCount_o3.keep K0 nin0) (F_elementData_o3.keep K0 nin0) (F_size_o3.keep K0 nin0) (V_o4.keep K0 nin0) (oNl F_modCount_o3.lt sz_b6_0) hp5) e21 0 b6_0 E_b6_0 [] [] pd_20 d21_28 fun T23 _ _ X23 hQ23 => ?_
  obtain ⟨rfl, N23, K23, E_b6_0', F_this_0_b6_0', F_lastRet_b6_0', F_expectedModCount_b6_0', F_cursor_b6_0'⟩ := hQ23
  replace N0 := Fr.app N0 N23
  replace E_b1 := E_b1.keep K23
  replace F_modCount_b1 := F_modCount_b1.keep K23 (ninS ne_b1_b6_0 nin0)
  replace F_elementData_b1 := F_elementData_b1.keep K23 (ninS ne_b1_b6_0 nin0)
  replace F_size_b1 := F_size_b1.keep K23 (ninS ne_b1_b6_0 nin0)
  replace V_b19_0 := V_b19_0.keep K23 (ninS (Ne.symm ne_b6_0_b19_0) nin0)
  replace OZ := OZ.keep K23 (allS g_b6_0 all0)
  replace K0 := K0.trans K23 (allS (Or.inr sz_b6_0) all0)
  replace Z0 := Nat.le_trans Z0 K23.1
  replace E_b6_0 := E_b6_0'
  have F_this_0_b6_0 := F_this_0_b6_0'
  have F_lastRet_b6_0 := F_lastRet_b6_0'
  have F_expectedModCount_b6_0 := F_expectedModCount_b6_0'
  have F_cursor_b6_0 := F_cursor_b6_0'
  refine oKst X23 H (hV hw 187) rfl (Ins.self (E_o6.keep K0)) d21_33 fun T24 X24 e24 => ?_
  refine oG X24 H r21_36_38 40 (lA15_ o0 o1 b1 b6_0 o6) [(.ref o6)] ?_
  refine ocV X24 H (wb33_ hw) (rm27_59 hw Z0 (F_name_o6.keep K0 nin0)) e24 0 o6 (E_o6.keep K0) [] [] pd_21 d21_40 fun T26 _ _ X26 hQ26 => ?_
  obtain ⟨rfl, N26, e26⟩ := hQ26
  replace N0 := Fr.app N0 N26
  refine oG X26 H r21_43_43 44 (lA15_ o0 o1 b1 b6_0 o6) [(.ref o1), (.ref o10)] ?_
  refine ocV X26 H (wb34_ hw) (rm28_ne hw Z0 OZ S_COMPACT_STRINGS hp3 (T_o10.keep K0) (T_o1.keep K0) ne_o10_o1 hp6) e26 0 o10 (own_Str.exa (T_o10.keep K0)) [(.ref o1)] [] pd_10 d21_44 fun T28 _ _ X28 hQ28 => ?_
  obtain ⟨rfl, N28, e28⟩ := hQ28
  replace N0 := Fr.app N0 N28
  refine oIY X28 H oD0 d21_47 62 (lA15_ o0 o1 b1 b6_0 o6) [] rfl ((if0 _ _).trans (teq (by decide : (0 : Int32) = (0 : Int32))).1) ?_
  refine oH X28 H r21_62_18 19 [(.ref b6_0)] ?_
  refine ocF X28 H (wb22_ hw) (rm24_56 hw Z0 F_this_0_b6_0 F_cursor_b6_0 (F_size_o3.keep K0 nin0) hp7) e28 0 b6_0 E_b6_0 [] [] pd_19 d21_19 fun T30 _ _ X30 hQ30 => ?_
  obtain ⟨rfl, N30, e30⟩ := hQ30
  replace N0 := Fr.app N0 N30
  refine oIN X30 H oD0 d21_24 (lA15_ o0 o1 b1 b6_0 o6) [] rfl ((if0 _ _).trans (feq (by decide : ¬ ((1 : Int32) = (0 : Int32)))).1) ?_
  refine oH X30 H r21_27_27 28 [(.ref b6_0)] ?_
  refine ocF X30 H (wb32_ hw) (rm25_79 hw Z0 g_b6_0 E_b6_0 F_this_0_b6_0 F_lastRet_b6_0 F_expectedModCount_b6_0 F_cursor_b6_0 (F_modCount_o3.keep K0 nin0) (F_elementData_o3.keep K0 nin0) (F_size_o3.keep K0 nin0) (V_o4.keep K0 nin0) (oNl F_modCount_o3.lt sz_b6_0) hp8) e30 0 b6_0 E_b6_0 [] [] pd_20 d21_28 fun T32 _ _ X32 hQ32 => ?_
  obtain ⟨rfl, N32, K32, E_b6_0', F_this_0_b6_0', _, _, F_cursor_b6_0'⟩ := hQ32
  replace N0 := Fr.app N0 N32
  replace E_b1 := E_b1.keep K32
  replace F_modCount_b1 := F_modCount_b1.keep K32 (ninS ne_b1_b6_0 nin0)
  replace F_elementData_b1 := F_elementData_b1.keep K32 (ninS ne_b1_b6_0 nin0)
  replace F_size_b1 := F_size_b1.keep K32 (ninS ne_b1_b6_0 nin0)
  replace V_b19_0 := V_b19_0.keep K32 (ninS (Ne.symm ne_b6_0_b19_0) nin0)
  replace OZ := OZ.keep K32 (allS g_b6_0 all0)
  replace K0 := K0.trans K32 (allS (Or.inr sz_b6_0) all0)
  replace Z0 := Nat.le_trans Z0 K32.1
  replace E_b6_0 := E_b6_0'
  have F_this_0_b6_0 := F_this_0_b6_0'
  have F_cursor_b6_0 := F_cursor_b6_0'
  refine oKst X32 H (hV hw 187) rfl (Ins.self (E_o7.keep K0)) d21_33 fun T33 X33 e33 => ?_
  refine oG X33 H r21_36_38 40 (lA15_ o0 o1 b1 b6_0 o7) [(.ref o7)] ?_
  refine ocV X33 H (wb33_ hw) (rm27_59 hw Z0 (F_name_o7.keep K0 nin0)) e33 0 o7 (E_o7.keep K0) [] [] pd_21 d21_40 fun T35 _ _ X35 hQ35 => ?_
  obtain ⟨rfl, N35, e35⟩ := hQ35
  replace N0 := Fr.app N0 N35
  refine oG X35 H r21_43_43 44 (lA15_ o0 o1 b1 b6_0 o7) [(.ref o1), (.ref o12)] ?_
  refine ocV X35 H (wb34_ hw) (rm28_eq hw Z0 OZ S_COMPACT_STRINGS hp3 (T_o12.keep K0) (T_o1.keep K0) ne_o12_o1 hp9) e35 0 o12 (own_Str.exa (T_o12.keep K0)) [(.ref o1)] [] pd_10 d21_44 fun T37 _ _ X37 hQ37 => ?_
  obtain ⟨rfl, N37, e37⟩ := hQ37
  replace N0 := Fr.app N0 N37
  refine oIN X37 H oD0 d21_47 (lA15_ o0 o1 b1 b6_0 o7) [] rfl ((if0 _ _).trans (feq (by decide : ¬ ((1 : Int32) = (0 : Int32)))).1) ?_
  refine oH X37 H r21_50_51 53 [(.ref o7), (.ref b1)] ?_
  refine ocV X37 H (wb35_ hw) (rm31_60 hw Z0 (F_value_o7.keep K0 nin0)) e37 1 o7 (E_o7.keep K0) [] [(.ref b1)] pd_20 d21_53 fun T39 _ _ X39 hQ39 => ?_
  obtain ⟨rfl, N39, e39⟩ := hQ39
  replace N0 := Fr.app N0 N39
  refine ocF X39 H (wb36_ hw) (rm15_70 hw Z0 g_b1 E_b1 F_modCount_b1 F_elementData_b1 F_size_b1 (E_o13.keep K0) g_b19_0 V_b19_0 Ov_k19_1) e39 0 b1 E_b1 [(.ref o13)] [] pd_10 d21_56 fun T41 _ _ X41 hQ41 => ?_
  obtain ⟨rfl, N41, K41, E_b1', F_modCount_b1', F_elementData_b1', F_size_b1', V_b19_0'⟩ := hQ41
  replace N0 := Fr.app N0 N41
  replace E_b6_0 := E_b6_0.keep K41
  replace F_this_0_b6_0 := F_this_0_b6_0.keep K41 (ninS (Ne.symm ne_b1_b6_0) (ninS ne_b6_0_b19_0 nin0))
  replace F_cursor_b6_0 := F_cursor_b6_0.keep K41 (ninS (Ne.symm ne_b1_b6_0) (ninS ne_b6_0_b19_0 nin0))
  replace K0 := K0.trans K41 (allS (Or.inr sz_b1) (allS (Or.inr sz_b19_0) all0))
  replace Z0 := Nat.le_trans Z0 K41.1
  replace E_b1 := E_b1'
  have F_modCount_b1 : Fld Z T41.heap b1 c4_ "modCount" "I" (.int (2 : Int32)) := F_modCount_b1'
  have F_elementData_b1 := F_elementData_b1'
  have F_size_b1 := F_size_b1'
  have V_b19_0 := V_b19_0'
  refine oB_ (tF_ T41 (mkF m 62 (lA15_ o0 o1 b1 b6_0 o7) [])) (fun t k => ?_) ?_
  · refine XS.pop X41.here hx rfl (hb hby d21_61) rfl rfl ?_
    exact k
  refine oH X41 H r21_62_18 19 [(.ref b6_0)] ?_
  refine ocF X41 H (wb22_ hw) (rm24_48 hw Z0 F_this_0_b6_0 F_cursor_b6_0 (F_size_o3.keep K0 nin0) hp10) (rfl : T41.heap = _) 0 b6_0 E_b6_0 [] [] pd_19 d21_19 fun T43 _ _ X43 hQ43 => ?_
  obtain ⟨rfl, N43, e43⟩ := hQ43
  replace N0 := Fr.app N0 N43
  refine oIY X43 H oD0 d21_24 65 (lA15_ o0 o1 b1 b6_0 o7) [] rfl ((if0 _ _).trans (teq (by decide : (0 : Int32) = (0 : Int32))).1) ?_
  refine oH X43 H r21_65_65 66 [(.ref b1)] ?_
  exact own_retR X43 Blk hx Bret rfl rfl rfl (hb hby d21_66) (by
      try rw [show T43.heap = T41.heap from e43]
      exact ⟨b1, b19_0, k19_1, rfl, N0, K0, E_b1, F_modCount_b1, F_elementData_b1, F_size_b1, V_b19_0, Ov_k19_1, sz_b1, sz_b19_0, ne_b1_b19_0⟩) dE_ dE_

set_option maxRecDepth 65536 in
set_option maxHeartbeats 40000000 in
theorem rm21_85 (hw : oW_ a0 Z) (Z0 : n0 ≤ h0.size) (F_members_o0 : Fld Z h0 o0 c7_ "members" c19_ (.ref o3)) (T_o1 : own_Str Z h0 o1 l0) (V_o2 : Arv Z h0 o2 k0 (.object c1_) (0 : Int32) [] .null) (E_o3 : Exa Z h0 o3 c0_) (F_modCount_o3 : Fld Z h0 o3 c4_ "modCount" "I" (.int i0)) (F_elementData_o3 : Fld Z h0 o3 c0_ "elementData" c3_ (.ref o4)) (F_size_o3 : Fld Z h0 o3 c0_ "size" "I" (.int i1)) (V_o4 : Arv Z h0 o4 k1 (.object c1_) (10 : Int32) [(.ref o5), (.ref o6), (.ref o7)] .null) (E_o5 : Exa Z h0 o5 c6_) (F_name_o5 : Fld Z h0 o5 c6_ "name" c9_ (.ref o8)) (F_value_o5 : Fld Z h0 o5 c6_ "value" c11_ (.ref o9)) (E_o6 : Exa Z h0 o6 c6_) (F_name_o6 : Fld Z h0 o6 c6_ "name" c9_ (.ref o10)) (E_o7 : Exa Z h0 o7 c6_) (F_name_o7 : Fld Z h0 o7 c6_ "name" c9_ (.ref o12)) (T_o8 : own_Str Z h0 o8 l1) (E_o9 : Exa Z h0 o9 c8_) (T_o10 : own_Str Z h0 o10 l2) (T_o12 : own_Str Z h0 o12 l3) (S_DEFAULTCAPACITY_EMPTY_ELEMENTDATA : Sta Z Z.heap c0_ c15_ c3_ (.ref o2)) (S_COMPACT_STRINGS : Sta Z Z.heap c2_ c13_ "Z" (.int i2)) (OZ : Old Z n0 h0) (hp0 : ¬ ((0 : Int32) = i1)) (hp1 : (0 : Int32) < i1) (hp2 : l1 = l0) (hp3 : ¬ (i2 = (0 : Int32))) (ne_o8_o1 : o8 ≠ o1) (hp4 : ¬ ((1 : Int32) = i1)) (hp5 : (1 : Int32) < i1) (hp6 : ¬ (l2 = l0)) (ne_o10_o1 : o10 ≠ o1) (hp7 : ¬ ((2 : Int32) = i1)) (hp8 : (2 : Int32) < i1) (hp9 : ¬ (l3 = l0)) (ne_o12_o1 : o12 ≠ o1) (hp10 : (3 : Int32) = i1) :
    oM l y13_ prog_24_method_2_code 5 (some (.object c12_)) ws (rM_ 5 3 17 69) #[(.ref o0), (.ref o1)] Z h0 (fun v h L => ∃ b1 : Addr, ∃ b19_0 : Addr, ∃ k19_1 : ClassId, v = some (.ref b1) ∧ Fr n0 L ∧ Keep h0 h [] ∧ Exa Z h b1 c0_ ∧ Fld Z h b1 c4_ "modCount" "I" (.int (1 : Int32)) ∧ Fld Z h b1 c0_ "elementData" c3_ (.ref b19_0) ∧ Fld Z h b1 c0_ "size" "I" (.int (1 : Int32)) ∧ Arv Z h b19_0 k19_1 (.object c1_) (10 : Int32) [(.ref o9)] .null ∧ Ovr Z k19_1 c1_ ∧ h0.size ≤ b1 ∧ h0.size ≤ b19_0 ∧ b1 ≠ b19_0) := by
  refine own_body c7_ (plainFor_of_name pn_21) (fun m => ef_21 m o0 o1) fun p e s m below meth c s₁ X0 H hnm Bret Blk e0 => ?_
  obtain ⟨hx, _, _, _, hby⟩ := id H
  have N0 := Fr.nil n0
  have K0 : Keep h0 h0 [] := Keep.refl h0 _
  refine oNw X0 H (hV hw 136) (hV hw 48) (hV hw 49) e0 d21_0 fun T1 h1 b1 X1 e1 E1 u1 E_b1 D1 => ?_
  have g_b1 := Nat.le_trans Z0 u1
  have sz_b1 := Nat.le_trans K0.1 u1
  replace OZ := OZ.ext E1
  replace K0 := K0.ext E1
  replace Z0 := Nat.le_trans Z0 E1.1
  have F_modCount_b1 : Fld Z h1 b1 c4_ "modCount" "I" oZ := D1 (Or.inl (hV hw 67)) (ty := .int) dE_
  have F_elementData_b1 : Fld Z h1 b1 c0_ "elementData" c3_ .null := D1 (Or.inl (hV hw 70)) (ty := (.array (.object c1_))) dE_
  have F_size_b1 : Fld Z h1 b1 c0_ "size" "I" oZ := D1 (Or.inl (hV hw 99)) (ty := .int) dE_
  refine oG X1 H r21_3_3 4 (lA12_ o0 o1) [(.ref b1), (.ref b1)] ?_
  refine ocI X1 H (wb19_ hw) (rm10_43 hw Z0 g_b1 E_b1 F_modCount_b1 F_elementData_b1 F_size_b1 S_DEFAULTCAPACITY_EMPTY_ELEMENTDATA OZ) e1 1 b1 [] [(.ref b1)] pd_3 d21_4 fun T3 _ _ X3 hQ3 => ?_
  obtain ⟨rfl, N3, K3, E_b1', F_modCount_b1', F_elementData_b1', F_size_b1'⟩ := hQ3
  replace N0 := Fr.app N0 N3
  replace OZ := OZ.keep K3 (allS g_b1 all0)
  replace K0 := K0.trans K3 (allS (Or.inr sz_b1) all0)
  replace Z0 := Nat.le_trans Z0 K3.1
  replace E_b1 := E_b1'
  have F_modCount_b1 := F_modCount_b1'
  have F_elementData_b1 := F_elementData_b1'
  have F_size_b1 := F_size_b1'
  refine oG X3 H r21_7_8 9 (lA13_ o0 o1 b1) [(.ref o0)] ?_
  refine oGf X3 H (hV hw 129) rfl (F_members_o0.keep K0 nin0) d21_9 fun T4 X4 e4 => ?_
  refine ocF X4 H (wb21_ hw) (rm22_47 hw Z0 (F_modCount_o3.keep K0 nin0)) e4 0 o3 (E_o3.keep K0) [] [] pd_17 d21_12 fun T6 _ _ X6 hQ6 => ?_
  obtain ⟨b6_0, rfl, N6, K6, E_b6_0', F_this_0_b6_0', F_lastRet_b6_0', F_expectedModCount_b6_0', F_cursor_b6_0', sz_b6_0'⟩ := hQ6
  replace N0 := Fr.app N0 N6
  have g_b6_0 := Nat.le_trans Z0 sz_b6_0'
  have sz_b6_0 := Nat.le_trans K0.1 sz_b6_0'
  have ne_b1_b6_0 := oNl E_b1.lt sz_b6_0'
  replace E_b1 := E_b1.keep K6
  replace F_modCount_b1 := F_modCount_b1.keep K6 nin0
  replace F_elementData_b1 := F_elementData_b1.keep K6 nin0
  replace F_size_b1 := F_size_b1.keep K6 nin0
  replace OZ := OZ.keep K6 all0
  replace K0 := K0.trans K6 all0
  replace Z0 := Nat.le_trans Z0 K6.1
  have E_b6_0 := E_b6_0'
  have F_this_0_b6_0 := F_this_0_b6_0'
  have F_lastRet_b6_0 := F_lastRet_b6_0'
  have F_expectedModCount_b6_0 := F_expectedModCount_b6_0'
  have F_cursor_b6_0 := F_cursor_b6_0'
  refine oG X6 H r21_17_18 19 (lA14_ o0 o1 b1 b6_0) [(.ref b6_0)] ?_
  refine ocF X6 H (wb22_ hw) (rm24_56 hw Z0 F_this_0_b6_0 F_cursor_b6_0 (F_size_o3.keep K0 nin0) hp0) (rfl : T6.heap = _) 0 b6_0 E_b6_0 [] [] pd_19 d21_19 fun T8 _ _ X8 hQ8 => ?_
  obtain ⟨rfl, N8, e8⟩ := hQ8
  replace N0 := Fr.app N0 N8
  refine oIN X8 H oD0 d21_24 (lA14_ o0 o1 b1 b6_0) [] rfl ((if0 _ _).trans (feq (by decide : ¬ ((1 : Int32) = (0 : Int32)))).1) ?_
  refine oH X8 H r21_27_27 28 [(.ref b6_0)] ?_
  refine ocF X8 H (wb32_ hw) (rm25_77 hw Z0 g_b6_0 E_b6_0 F_this_0_b6_0 F_lastRet_b6_0 F_expectedModCount_b6_0 F_cursor_b6_0 (F_modCount_o3.keep K0 nin0) (F_elementData_o3.keep K0 nin0) (F_size_o3.keep K0 nin0) (V_o4.keep K0 nin0) (oNl F_modCount_o3.lt sz_b6_0) hp1) e8 0 b6_0 E_b6_0 [] [] pd_20 d21_28 fun T10 _ _ X10 hQ10 => ?_
  obtain ⟨rfl, N10, K10, E_b6_0', F_this_0_b6_0', F_lastRet_b6_0', F_expectedModCount_b6_0', F_cursor_b6_0'⟩ := hQ10
  replace N0 := Fr.app N0 N10
  replace E_b1 := E_b1.keep K10
  replace F_modCount_b1 := F_modCount_b1.keep K10 (ninS ne_b1_b6_0 nin0)
  replace F_elementData_b1 := F_elementData_b1.keep K10 (ninS ne_b1_b6_0 nin0)
  replace F_size_b1 := F_size_b1.keep K10 (ninS ne_b1_b6_0 nin0)
  replace OZ := OZ.keep K10 (allS g_b6_0 all0)
  replace K0 := K0.trans K10 (allS (Or.inr sz_b6_0) all0)
  replace Z0 := Nat.le_trans Z0 K10.1
  replace E_b6_0 := E_b6_0'
  have F_this_0_b6_0 := F_this_0_b6_0'
  have F_lastRet_b6_0 := F_lastRet_b6_0'
  have F_expectedModCount_b6_0 := F_expectedModCount_b6_0'
  have F_cursor_b6_0 := F_cursor_b6_0'
  refine oKst X10 H (hV hw 187) rfl (Ins.self (E_o5.keep K0)) d21_33 fun T11 X11 e11 => ?_
  refine oG X11 H r21_36_38 40 (lA15_ o0 o1 b1 b6_0 o5) [(.ref o5)] ?_
  refine ocV X11 H (wb33_ hw) (rm27_59 hw Z0 (F_name_o5.keep K0 nin0)) e11 0 o5 (E_o5.keep K0) [] [] pd_21 d21_40 fun T13 _ _ X13 hQ13 => ?_
  obtain ⟨rfl, N13, e13⟩ := hQ13
  replace N0 := Fr.app N0 N13
  refine oG X13 H r21_43_43 44 (lA15_ o0 o1 b1 b6_0 o5) [(.ref o1), (.ref o8)] ?_
  refine ocV X13 H (wb34_ hw) (rm28_eq hw Z0 OZ S_COMPACT_STRINGS hp3 (T_o8.keep K0) (T_o1.keep K0) ne_o8_o1 hp2) e13 0 o8 (own_Str.exa (T_o8.keep K0)) [(.ref o1)] [] pd_10 d21_44 fun T15 _ _ X15 hQ15 => ?_
  obtain ⟨rfl, N15, e15⟩ := hQ15
  replace N0 := Fr.app N0 N15
  refine oIN X15 H oD0 d21_47 (lA15_ o0 o1 b1 b6_0 o5) [] rfl ((if0 _ _).trans (feq (by decide : ¬ ((1 : Int32) = (0 : Int32)))).1) ?_
  refine oH X15 H r21_50_51 53 [(.ref o5), (.ref b1)] ?_
  refine ocV X15 H (wb35_ hw) (rm31_60 hw Z0 (F_value_o5.keep K0 nin0)) e15 1 o5 (E_o5.keep K0) [] [(.ref b1)] pd_20 d21_53 fun T17 _ _ X17 hQ17 => ?_
  obtain ⟨rfl, N17, e17⟩ := hQ17
  replace N0 := Fr.app N0 N17
  refine ocF X17 H (wb36_ hw) (rm15_62 hw Z0 g_b1 E_b1 F_modCount_b1 F_elementData_b1 F_size_b1 (E_o9.keep K0) (V_o2.keep K0 nin0) S_DEFAULTCAPACITY_EMPTY_ELEMENTDATA OZ) e17 0 b1 E_b1 [(.ref o9)] [] pd_10 d21_56 fun T19 _ _ X19 hQ19 => ?_
  obtain ⟨b19_0, k19_1, rfl, N19, K19, E_b1', F_modCount_b1', F_elementData_b1', F_size_b1', V_b19_0', Ov_k19_1', sz_b19_0'⟩ := hQ19
  replace N0 := Fr.app N0 N19
  have sz_b19_0 := Nat.le_trans K0.1 sz_b19_0'
  have ne_b1_b19_0 := oNl E_b1.lt sz_b19_0'
  have ne_b6_0_b19_0 := oNl E_b6_0.lt sz_b19_0'
  replace E_b6_0 := E_b6_0.keep K19
  replace F_this_0_b6_0 := F_this_0_b6_0.keep K19 (ninS (Ne.symm ne_b1_b6_0) nin0)
  replace F_lastRet_b6_0 := F_lastRet_b6_0.keep K19 (ninS (Ne.symm ne_b1_b6_0) nin0)
  replace F_expectedModCount_b6_0 := F_expectedModCount_b6_0.keep K19 (ninS (Ne.symm ne_b1_b6_0) nin0)
  replace F_cursor_b6_0 := F_cursor_b6_0.keep K19 (ninS (Ne.symm ne_b1_b6_0) nin0)
  replace OZ := OZ.keep K19 (allS g_b1 all0)
  replace K0 := K0.trans K19 (allS (Or.inr sz_b1) all0)
  replace Z0 := Nat.le_trans Z0 K19.1
  replace E_b1 := E_b1'
  have F_modCount_b1 : Fld Z T19.heap b1 c4_ "modCount" "I" (.int (1 : Int32)) := F_modCount_b1'
  have F_elementData_b1 := F_elementData_b1'
  have F_size_b1 := F_size_b1'
  have V_b19_0 := V_b19_0'
  have Ov_k19_1 := Ov_k19_1'
  refine oB_ (tF_ T19 (mkF m 62 (lA15_ o0 o1 b1 b6_0 o5) [])) (fun t k => ?_) ?_
  · refine XS.pop X19.here hx rfl (hb hby d21_61) rfl rfl ?_
    exact k
  refine oH X19 H r21_62_18 19 [(.ref b6_0)] ?_
  refine ocF X19 H (wb22_ hw) (rm24_56 hw Z0 F_this_0_b6_0 F_cursor_b6_0 (F_size_o3.keep K0 nin0) hp4) (rfl : T19.heap = _) 0 b6_0 E_b6_0 [] [] pd_19 d21_19 fun T21 _ _ X21 hQ21 => ?_
  obtain ⟨rfl, N21, e21⟩ := hQ21
  replace N0 := Fr.app N0 N21
  refine oIN X21 H oD0 d21_24 (lA15_ o0 o1 b1 b6_0 o5) [] rfl ((if0 _ _).trans (feq (by decide : ¬ ((1 : Int32) = (0 : Int32)))).1) ?_
  refine oH X21 H r21_27_27 28 [(.ref b6_0)] ?_
  refine ocF X21 H (wb32_ hw) (rm25_78 hw Z0 g_b6_0 E_b6_0 F_this_0_b6_0 F_lastRet_b6_0 F_expectedModCount_b6_0 F_cursor_b6_0 (F_modCount_o3.keep K0 nin0) (F_elementData_o3.keep K0 nin0) (F_size_o3.keep K0 nin0) (V_o4.keep K0 nin0) (oNl F_modCount_o3.lt sz_b6_0) hp5) e21 0 b6_0 E_b6_0 [] [] pd_20 d21_28 fun T23 _ _ X23 hQ23 => ?_
  obtain ⟨rfl, N23, K23, E_b6_0', F_this_0_b6_0', F_lastRet_b6_0', F_expectedModCount_b6_0', F_cursor_b6_0'⟩ := hQ23
  replace N0 := Fr.app N0 N23
  replace E_b1 := E_b1.keep K23
  replace F_modCount_b1 := F_modCount_b1.keep K23 (ninS ne_b1_b6_0 nin0)
  replace F_elementData_b1 := F_elementData_b1.keep K23 (ninS ne_b1_b6_0 nin0)
  replace F_size_b1 := F_size_b1.keep K23 (ninS ne_b1_b6_0 nin0)
  replace V_b19_0 := V_b19_0.keep K23 (ninS (Ne.symm ne_b6_0_b19_0) nin0)
  replace OZ := OZ.keep K23 (allS g_b6_0 all0)
  replace K0 := K0.trans K23 (allS (Or.inr sz_b6_0) all0)
  replace Z0 := Nat.le_trans Z0 K23.1
  replace E_b6_0 := E_b6_0'
  have F_this_0_b6_0 := F_this_0_b6_0'
  have F_lastRet_b6_0 := F_lastRet_b6_0'
  have F_expectedModCount_b6_0 := F_expectedModCount_b6_0'
  have F_cursor_b6_0 := F_cursor_b6_0'
  refine oKst X23 H (hV hw 187) rfl (Ins.self (E_o6.keep K0)) d21_33 fun T24 X24 e24 => ?_
  refine oG X24 H r21_36_38 40 (lA15_ o0 o1 b1 b6_0 o6) [(.ref o6)] ?_
  refine ocV X24 H (wb33_ hw) (rm27_59 hw Z0 (F_name_o6.keep K0 nin0)) e24 0 o6 (E_o6.keep K0) [] [] pd_21 d21_40 fun T26 _ _ X26 hQ26 => ?_
  obtain ⟨rfl, N26, e26⟩ := hQ26
  replace N0 := Fr.app N0 N26
  refine oG X26 H r21_43_43 44 (lA15_ o0 o1 b1 b6_0 o6) [(.ref o1), (.ref o10)] ?_
  refine ocV X26 H (wb34_ hw) (rm28_ne hw Z0 OZ S_COMPACT_STRINGS hp3 (T_o10.keep K0) (T_o1.keep K0) ne_o10_o1 hp6) e26 0 o10 (own_Str.exa (T_o10.keep K0)) [(.ref o1)] [] pd_10 d21_44 fun T28 _ _ X28 hQ28 => ?_
  obtain ⟨rfl, N28, e28⟩ := hQ28
  replace N0 := Fr.app N0 N28
  refine oIY X28 H oD0 d21_47 62 (lA15_ o0 o1 b1 b6_0 o6) [] rfl ((if0 _ _).trans (teq (by decide : (0 : Int32) = (0 : Int32))).1) ?_
  refine oH X28 H r21_62_18 19 [(.ref b6_0)] ?_
  refine ocF X28 H (wb22_ hw) (rm24_56 hw Z0 F_this_0_b6_0 F_cursor_b6_0 (F_size_o3.keep K0 nin0) hp7) e28 0 b6_0 E_b6_0 [] [] pd_19 d21_19 fun T30 _ _ X30 hQ30 => ?_
  obtain ⟨rfl, N30, e30⟩ := hQ30
  replace N0 := Fr.app N0 N30
  refine oIN X30 H oD0 d21_24 (lA15_ o0 o1 b1 b6_0 o6) [] rfl ((if0 _ _).trans (feq (by decide : ¬ ((1 : Int32) = (0 : Int32)))).1) ?_
  refine oH X30 H r21_27_27 28 [(.ref b6_0)] ?_
  refine ocF X30 H (wb32_ hw) (rm25_79 hw Z0 g_b6_0 E_b6_0 F_this_0_b6_0 F_lastRet_b6_0 F_expectedModCount_b6_0 F_cursor_b6_0 (F_modCount_o3.keep K0 nin0) (F_elementData_o3.keep K0 nin0) (F_size_o3.keep K0 nin0) (V_o4.keep K0 nin0) (oNl F_modCount_o3.lt sz_b6_0) hp8) e30 0 b6_0 E_b6_0 [] [] pd_20 d21_28 fun T32 _ _ X32 hQ32 => ?_
  obtain ⟨rfl, N32, K32, E_b6_0', F_this_0_b6_0', _, _, F_cursor_b6_0'⟩ := hQ32
  replace N0 := Fr.app N0 N32
  replace E_b1 := E_b1.keep K32
  replace F_modCount_b1 := F_modCount_b1.keep K32 (ninS ne_b1_b6_0 nin0)
  replace F_elementData_b1 := F_elementData_b1.keep K32 (ninS ne_b1_b6_0 nin0)
  replace F_size_b1 := F_size_b1.keep K32 (ninS ne_b1_b6_0 nin0)
  replace V_b19_0 := V_b19_0.keep K32 (ninS (Ne.symm ne_b6_0_b19_0) nin0)
  replace OZ := OZ.keep K32 (allS g_b6_0 all0)
  replace K0 := K0.trans K32 (allS (Or.inr sz_b6_0) all0)
  replace Z0 := Nat.le_trans Z0 K32.1
  replace E_b6_0 := E_b6_0'
  have F_this_0_b6_0 := F_this_0_b6_0'
  have F_cursor_b6_0 := F_cursor_b6_0'
  refine oKst X32 H (hV hw 187) rfl (Ins.self (E_o7.keep K0)) d21_33 fun T33 X33 e33 => ?_
  refine oG X33 H r21_36_38 40 (lA15_ o0 o1 b1 b6_0 o7) [(.ref o7)] ?_
  refine ocV X33 H (wb33_ hw) (rm27_59 hw Z0 (F_name_o7.keep K0 nin0)) e33 0 o7 (E_o7.keep K0) [] [] pd_21 d21_40 fun T35 _ _ X35 hQ35 => ?_
  obtain ⟨rfl, N35, e35⟩ := hQ35
  replace N0 := Fr.app N0 N35
  refine oG X35 H r21_43_43 44 (lA15_ o0 o1 b1 b6_0 o7) [(.ref o1), (.ref o12)] ?_
  refine ocV X35 H (wb34_ hw) (rm28_ne hw Z0 OZ S_COMPACT_STRINGS hp3 (T_o12.keep K0) (T_o1.keep K0) ne_o12_o1 hp9) e35 0 o12 (own_Str.exa (T_o12.keep K0)) [(.ref o1)] [] pd_10 d21_44 fun T37 _ _ X37 hQ37 => ?_
  obtain ⟨rfl, N37, e37⟩ := hQ37
  replace N0 := Fr.app N0 N37
  refine oIY X37 H oD0 d21_47 62 (lA15_ o0 o1 b1 b6_0 o7) [] rfl ((if0 _ _).trans (teq (by decide : (0 : Int32) = (0 : Int32))).1) ?_
  refine oH X37 H r21_62_18 19 [(.ref b6_0)] ?_
  refine ocF X37 H (wb22_ hw) (rm24_48 hw Z0 F_this_0_b6_0 F_cursor_b6_0 (F_size_o3.keep K0 nin0) hp10) e37 0 b6_0 E_b6_0 [] [] pd_19 d21_19 fun T39 _ _ X39 hQ39 => ?_
  obtain ⟨rfl, N39, e39⟩ := hQ39
  replace N0 := Fr.app N0 N39
  refine oIY X39 H oD0 d21_24 65 (lA15_ o0 o1 b1 b6_0 o7) [] rfl ((if0 _ _).trans (teq (by decide : (0 : Int32) = (0 : Int32))).1) ?_
  refine oH X39 H r21_65_65 66 [(.ref b1)] ?_
  exact own_retR X39 Blk hx Bret rfl rfl rfl (hb hby d21_66) (by
      try rw [show T39.heap = T32.heap from e39]
      exact ⟨b1, b19_0, k19_1, rfl, N0, K0, E_b1, F_modCount_b1, F_elementData_b1, F_size_b1, V_b19_0, Ov_k19_1, sz_b1, sz_b19_0, ne_b1_b19_0⟩) dE_ dE_

set_option maxRecDepth 65536 in
set_option maxHeartbeats 40000000 in
theorem rm21_86 (hw : oW_ a0 Z) (Z0 : n0 ≤ h0.size) (F_members_o0 : Fld Z h0 o0 c7_ "members" c19_ (.ref o3)) (T_o1 : own_Str Z h0 o1 l0) (V_o2 : Arv Z h0 o2 k0 (.object c1_) (0 : Int32) [] .null) (E_o3 : Exa Z h0 o3 c0_) (F_modCount_o3 : Fld Z h0 o3 c4_ "modCount" "I" (.int i0)) (F_elementData_o3 : Fld Z h0 o3 c0_ "elementData" c3_ (.ref o4)) (F_size_o3 : Fld Z h0 o3 c0_ "size" "I" (.int i1)) (V_o4 : Arv Z h0 o4 k1 (.object c1_) (10 : Int32) [(.ref o5), (.ref o6), (.ref o7)] .null) (E_o5 : Exa Z h0 o5 c6_) (F_name_o5 : Fld Z h0 o5 c6_ "name" c9_ (.ref o8)) (E_o6 : Exa Z h0 o6 c6_) (F_name_o6 : Fld Z h0 o6 c6_ "name" c9_ (.ref o10)) (F_value_o6 : Fld Z h0 o6 c6_ "value" c11_ (.ref o11)) (E_o7 : Exa Z h0 o7 c6_) (F_name_o7 : Fld Z h0 o7 c6_ "name" c9_ (.ref o12)) (F_value_o7 : Fld Z h0 o7 c6_ "value" c11_ (.ref o13)) (T_o8 : own_Str Z h0 o8 l1) (T_o10 : own_Str Z h0 o10 l2) (E_o11 : Exa Z h0 o11 c8_) (T_o12 : own_Str Z h0 o12 l3) (E_o13 : Exa Z h0 o13 c8_) (S_DEFAULTCAPACITY_EMPTY_ELEMENTDATA : Sta Z Z.heap c0_ c15_ c3_ (.ref o2)) (S_COMPACT_STRINGS : Sta Z Z.heap c2_ c13_ "Z" (.int i2)) (OZ : Old Z n0 h0) (hp0 : ¬ ((0 : Int32) = i1)) (hp1 : (0 : Int32) < i1) (hp2 : ¬ (l1 = l0)) (hp3 : ¬ (i2 = (0 : Int32))) (ne_o8_o1 : o8 ≠ o1) (hp4 : ¬ ((1 : Int32) = i1)) (hp5 : (1 : Int32) < i1) (hp6 : l2 = l0) (ne_o10_o1 : o10 ≠ o1) (hp7 : ¬ ((2 : Int32) = i1)) (hp8 : (2 : Int32) < i1) (hp9 : l3 = l0) (ne_o12_o1 : o12 ≠ o1) (hp10 : (3 : Int32) = i1) :
    oM l y13_ prog_24_method_2_code 5 (some (.object c12_)) ws (rM_ 5 3 17 69) #[(.ref o0), (.ref o1)] Z h0 (fun v h L => ∃ b1 : Addr, ∃ b28_0 : Addr, ∃ k28_1 : ClassId, v = some (.ref b1) ∧ Fr n0 L ∧ Keep h0 h [] ∧ Exa Z h b1 c0_ ∧ Fld Z h b1 c4_ "modCount" "I" (.int (2 : Int32)) ∧ Fld Z h b1 c0_ "elementData" c3_ (.ref b28_0) ∧ Fld Z h b1 c0_ "size" "I" (.int (2 : Int32)) ∧ Arv Z h b28_0 k28_1 (.object c1_) (10 : Int32) [(.ref o11), (.ref o13)] .null ∧ Ovr Z k28_1 c1_ ∧ h0.size ≤ b1 ∧ h0.size ≤ b28_0 ∧ b1 ≠ b28_0) := by
  refine own_body c7_ (plainFor_of_name pn_21) (fun m => ef_21 m o0 o1) fun p e s m below meth c s₁ X0 H hnm Bret Blk e0 => ?_
  obtain ⟨hx, _, _, _, hby⟩ := id H
  have N0 := Fr.nil n0
  have K0 : Keep h0 h0 [] := Keep.refl h0 _
  refine oNw X0 H (hV hw 136) (hV hw 48) (hV hw 49) e0 d21_0 fun T1 h1 b1 X1 e1 E1 u1 E_b1 D1 => ?_
  have g_b1 := Nat.le_trans Z0 u1
  have sz_b1 := Nat.le_trans K0.1 u1
  replace OZ := OZ.ext E1
  replace K0 := K0.ext E1
  replace Z0 := Nat.le_trans Z0 E1.1
  have F_modCount_b1 : Fld Z h1 b1 c4_ "modCount" "I" oZ := D1 (Or.inl (hV hw 67)) (ty := .int) dE_
  have F_elementData_b1 : Fld Z h1 b1 c0_ "elementData" c3_ .null := D1 (Or.inl (hV hw 70)) (ty := (.array (.object c1_))) dE_
  have F_size_b1 : Fld Z h1 b1 c0_ "size" "I" oZ := D1 (Or.inl (hV hw 99)) (ty := .int) dE_
  refine oG X1 H r21_3_3 4 (lA12_ o0 o1) [(.ref b1), (.ref b1)] ?_
  refine ocI X1 H (wb19_ hw) (rm10_43 hw Z0 g_b1 E_b1 F_modCount_b1 F_elementData_b1 F_size_b1 S_DEFAULTCAPACITY_EMPTY_ELEMENTDATA OZ) e1 1 b1 [] [(.ref b1)] pd_3 d21_4 fun T3 _ _ X3 hQ3 => ?_
  obtain ⟨rfl, N3, K3, E_b1', F_modCount_b1', F_elementData_b1', F_size_b1'⟩ := hQ3
  replace N0 := Fr.app N0 N3
  replace OZ := OZ.keep K3 (allS g_b1 all0)
  replace K0 := K0.trans K3 (allS (Or.inr sz_b1) all0)
  replace Z0 := Nat.le_trans Z0 K3.1
  replace E_b1 := E_b1'
  have F_modCount_b1 := F_modCount_b1'
  have F_elementData_b1 := F_elementData_b1'
  have F_size_b1 := F_size_b1'
  refine oG X3 H r21_7_8 9 (lA13_ o0 o1 b1) [(.ref o0)] ?_
  refine oGf X3 H (hV hw 129) rfl (F_members_o0.keep K0 nin0) d21_9 fun T4 X4 e4 => ?_
  refine ocF X4 H (wb21_ hw) (rm22_47 hw Z0 (F_modCount_o3.keep K0 nin0)) e4 0 o3 (E_o3.keep K0) [] [] pd_17 d21_12 fun T6 _ _ X6 hQ6 => ?_
  obtain ⟨b6_0, rfl, N6, K6, E_b6_0', F_this_0_b6_0', F_lastRet_b6_0', F_expectedModCount_b6_0', F_cursor_b6_0', sz_b6_0'⟩ := hQ6
  replace N0 := Fr.app N0 N6
  have g_b6_0 := Nat.le_trans Z0 sz_b6_0'
  have sz_b6_0 := Nat.le_trans K0.1 sz_b6_0'
  have ne_b1_b6_0 := oNl E_b1.lt sz_b6_0'
  replace E_b1 := E_b1.keep K6
  replace F_modCount_b1 := F_modCount_b1.keep K6 nin0
  replace F_elementData_b1 := F_elementData_b1.keep K6 nin0
  replace F_size_b1 := F_size_b1.keep K6 nin0
  replace OZ := OZ.keep K6 all0
  replace K0 := K0.trans K6 all0
  replace Z0 := Nat.le_trans Z0 K6.1
  have E_b6_0 := E_b6_0'
  have F_this_0_b6_0 := F_this_0_b6_0'
  have F_lastRet_b6_0 := F_lastRet_b6_0'
  have F_expectedModCount_b6_0 := F_expectedModCount_b6_0'
  have F_cursor_b6_0 := F_cursor_b6_0'
  refine oG X6 H r21_17_18 19 (lA14_ o0 o1 b1 b6_0) [(.ref b6_0)] ?_
  refine ocF X6 H (wb22_ hw) (rm24_56 hw Z0 F_this_0_b6_0 F_cursor_b6_0 (F_size_o3.keep K0 nin0) hp0) (rfl : T6.heap = _) 0 b6_0 E_b6_0 [] [] pd_19 d21_19 fun T8 _ _ X8 hQ8 => ?_
  obtain ⟨rfl, N8, e8⟩ := hQ8
  replace N0 := Fr.app N0 N8
  refine oIN X8 H oD0 d21_24 (lA14_ o0 o1 b1 b6_0) [] rfl ((if0 _ _).trans (feq (by decide : ¬ ((1 : Int32) = (0 : Int32)))).1) ?_
  refine oH X8 H r21_27_27 28 [(.ref b6_0)] ?_
  refine ocF X8 H (wb32_ hw) (rm25_77 hw Z0 g_b6_0 E_b6_0 F_this_0_b6_0 F_lastRet_b6_0 F_expectedModCount_b6_0 F_cursor_b6_0 (F_modCount_o3.keep K0 nin0) (F_elementData_o3.keep K0 nin0) (F_size_o3.keep K0 nin0) (V_o4.keep K0 nin0) (oNl F_modCount_o3.lt sz_b6_0) hp1) e8 0 b6_0 E_b6_0 [] [] pd_20 d21_28 fun T10 _ _ X10 hQ10 => ?_
  obtain ⟨rfl, N10, K10, E_b6_0', F_this_0_b6_0', F_lastRet_b6_0', F_expectedModCount_b6_0', F_cursor_b6_0'⟩ := hQ10
  replace N0 := Fr.app N0 N10
  replace E_b1 := E_b1.keep K10
  replace F_modCount_b1 := F_modCount_b1.keep K10 (ninS ne_b1_b6_0 nin0)
  replace F_elementData_b1 := F_elementData_b1.keep K10 (ninS ne_b1_b6_0 nin0)
  replace F_size_b1 := F_size_b1.keep K10 (ninS ne_b1_b6_0 nin0)
  replace OZ := OZ.keep K10 (allS g_b6_0 all0)
  replace K0 := K0.trans K10 (allS (Or.inr sz_b6_0) all0)
  replace Z0 := Nat.le_trans Z0 K10.1
  replace E_b6_0 := E_b6_0'
  have F_this_0_b6_0 := F_this_0_b6_0'
  have F_lastRet_b6_0 := F_lastRet_b6_0'
  have F_expectedModCount_b6_0 := F_expectedModCount_b6_0'
  have F_cursor_b6_0 := F_cursor_b6_0'
  refine oKst X10 H (hV hw 187) rfl (Ins.self (E_o5.keep K0)) d21_33 fun T11 X11 e11 => ?_
  refine oG X11 H r21_36_38 40 (lA15_ o0 o1 b1 b6_0 o5) [(.ref o5)] ?_
  refine ocV X11 H (wb33_ hw) (rm27_59 hw Z0 (F_name_o5.keep K0 nin0)) e11 0 o5 (E_o5.keep K0) [] [] pd_21 d21_40 fun T13 _ _ X13 hQ13 => ?_
  obtain ⟨rfl, N13, e13⟩ := hQ13
  replace N0 := Fr.app N0 N13
  refine oG X13 H r21_43_43 44 (lA15_ o0 o1 b1 b6_0 o5) [(.ref o1), (.ref o8)] ?_
  refine ocV X13 H (wb34_ hw) (rm28_ne hw Z0 OZ S_COMPACT_STRINGS hp3 (T_o8.keep K0) (T_o1.keep K0) ne_o8_o1 hp2) e13 0 o8 (own_Str.exa (T_o8.keep K0)) [(.ref o1)] [] pd_10 d21_44 fun T15 _ _ X15 hQ15 => ?_
  obtain ⟨rfl, N15, e15⟩ := hQ15
  replace N0 := Fr.app N0 N15
  refine oIY X15 H oD0 d21_47 62 (lA15_ o0 o1 b1 b6_0 o5) [] rfl ((if0 _ _).trans (teq (by decide : (0 : Int32) = (0 : Int32))).1) ?_
  refine oH X15 H r21_62_18 19 [(.ref b6_0)] ?_
  refine ocF X15 H (wb22_ hw) (rm24_56 hw Z0 F_this_0_b6_0 F_cursor_b6_0 (F_size_o3.keep K0 nin0) hp4) e15 0 b6_0 E_b6_0 [] [] pd_19 d21_19 fun T17 _ _ X17 hQ17 => ?_
  obtain ⟨rfl, N17, e17⟩ := hQ17
  replace N0 := Fr.app N0 N17
  refine oIN X17 H oD0 d21_24 (lA15_ o0 o1 b1 b6_0 o5) [] rfl ((if0 _ _).trans (feq (by decide : ¬ ((1 : Int32) = (0 : Int32)))).1) ?_
  refine oH X17 H r21_27_27 28 [(.ref b6_0)] ?_
  refine ocF X17 H (wb32_ hw) (rm25_78 hw Z0 g_b6_0 E_b6_0 F_this_0_b6_0 F_lastRet_b6_0 F_expectedModCount_b6_0 F_cursor_b6_0 (F_modCount_o3.keep K0 nin0) (F_elementData_o3.keep K0 nin0) (F_size_o3.keep K0 nin0) (V_o4.keep K0 nin0) (oNl F_modCount_o3.lt sz_b6_0) hp5) e17 0 b6_0 E_b6_0 [] [] pd_20 d21_28 fun T19 _ _ X19 hQ19 => ?_
  obtain ⟨rfl, N19, K19, E_b6_0', F_this_0_b6_0', F_lastRet_b6_0', F_expectedModCount_b6_0', F_cursor_b6_0'⟩ := hQ19
  replace N0 := Fr.app N0 N19
  replace E_b1 := E_b1.keep K19
  replace F_modCount_b1 := F_modCount_b1.keep K19 (ninS ne_b1_b6_0 nin0)
  replace F_elementData_b1 := F_elementData_b1.keep K19 (ninS ne_b1_b6_0 nin0)
  replace F_size_b1 := F_size_b1.keep K19 (ninS ne_b1_b6_0 nin0)
  replace OZ := OZ.keep K19 (allS g_b6_0 all0)
  replace K0 := K0.trans K19 (allS (Or.inr sz_b6_0) all0)
  replace Z0 := Nat.le_trans Z0 K19.1
  replace E_b6_0 := E_b6_0'
  have F_this_0_b6_0 := F_this_0_b6_0'
  have F_lastRet_b6_0 := F_lastRet_b6_0'
  have F_expectedModCount_b6_0 := F_expectedModCount_b6_0'
  have F_cursor_b6_0 := F_cursor_b6_0'
  refine oKst X19 H (hV hw 187) rfl (Ins.self (E_o6.keep K0)) d21_33 fun T20 X20 e20 => ?_
  refine oG X20 H r21_36_38 40 (lA15_ o0 o1 b1 b6_0 o6) [(.ref o6)] ?_
  refine ocV X20 H (wb33_ hw) (rm27_59 hw Z0 (F_name_o6.keep K0 nin0)) e20 0 o6 (E_o6.keep K0) [] [] pd_21 d21_40 fun T22 _ _ X22 hQ22 => ?_
  obtain ⟨rfl, N22, e22⟩ := hQ22
  replace N0 := Fr.app N0 N22
  refine oG X22 H r21_43_43 44 (lA15_ o0 o1 b1 b6_0 o6) [(.ref o1), (.ref o10)] ?_
  refine ocV X22 H (wb34_ hw) (rm28_eq hw Z0 OZ S_COMPACT_STRINGS hp3 (T_o10.keep K0) (T_o1.keep K0) ne_o10_o1 hp6) e22 0 o10 (own_Str.exa (T_o10.keep K0)) [(.ref o1)] [] pd_10 d21_44 fun T24 _ _ X24 hQ24 => ?_
  obtain ⟨rfl, N24, e24⟩ := hQ24
  replace N0 := Fr.app N0 N24
  refine oIN X24 H oD0 d21_47 (lA15_ o0 o1 b1 b6_0 o6) [] rfl ((if0 _ _).trans (feq (by decide : ¬ ((1 : Int32) = (0 : Int32)))).1) ?_
  refine oH X24 H r21_50_51 53 [(.ref o6), (.ref b1)] ?_
  refine ocV X24 H (wb35_ hw) (rm31_60 hw Z0 (F_value_o6.keep K0 nin0)) e24 1 o6 (E_o6.keep K0) [] [(.ref b1)] pd_20 d21_53 fun T26 _ _ X26 hQ26 => ?_
  obtain ⟨rfl, N26, e26⟩ := hQ26
  replace N0 := Fr.app N0 N26
  refine ocF X26 H (wb36_ hw) (rm15_62 hw Z0 g_b1 E_b1 F_modCount_b1 F_elementData_b1 F_size_b1 (E_o11.keep K0) (V_o2.keep K0 nin0) S_DEFAULTCAPACITY_EMPTY_ELEMENTDATA OZ) e26 0 b1 E_b1 [(.ref o11)] [] pd_10 d21_56 fun T28 _ _ X28 hQ28 => ?_
  obtain ⟨b28_0, k28_1, rfl, N28, K28, E_b1', F_modCount_b1', F_elementData_b1', F_size_b1', V_b28_0', Ov_k28_1', sz_b28_0'⟩ := hQ28
  replace N0 := Fr.app N0 N28
  have g_b28_0 := Nat.le_trans Z0 sz_b28_0'
  have sz_b28_0 := Nat.le_trans K0.1 sz_b28_0'
  have ne_b1_b28_0 := oNl E_b1.lt sz_b28_0'
  have ne_b6_0_b28_0 := oNl E_b6_0.lt sz_b28_0'
  replace E_b6_0 := E_b6_0.keep K28
  replace F_this_0_b6_0 := F_this_0_b6_0.keep K28 (ninS (Ne.symm ne_b1_b6_0) nin0)
  replace F_lastRet_b6_0 := F_lastRet_b6_0.keep K28 (ninS (Ne.symm ne_b1_b6_0) nin0)
  replace F_expectedModCount_b6_0 := F_expectedModCount_b6_0.keep K28 (ninS (Ne.symm ne_b1_b6_0) nin0)
  replace F_cursor_b6_0 := F_cursor_b6_0.keep K28 (ninS (Ne.symm ne_b1_b6_0) nin0)
  replace OZ := OZ.keep K28 (allS g_b1 all0)
  replace K0 := K0.trans K28 (allS (Or.inr sz_b1) all0)
  replace Z0 := Nat.le_trans Z0 K28.1
  replace E_b1 := E_b1'
  have F_modCount_b1 : Fld Z T28.heap b1 c4_ "modCount" "I" (.int (1 : Int32)) := F_modCount_b1'
  have F_elementData_b1 := F_elementData_b1'
  have F_size_b1 := F_size_b1'
  have V_b28_0 := V_b28_0'
  have Ov_k28_1 := Ov_k28_1'
  refine oB_ (tF_ T28 (mkF m 62 (lA15_ o0 o1 b1 b6_0 o6) [])) (fun t k => ?_) ?_
  · refine XS.pop X28.here hx rfl (hb hby d21_61) rfl rfl ?_
    exact k
  refine oH X28 H r21_62_18 19 [(.ref b6_0)] ?_
  refine ocF X28 H (wb22_ hw) (rm24_56 hw Z0 F_this_0_b6_0 F_cursor_b6_0 (F_size_o3.keep K0 nin0) hp7) (rfl : T28.heap = _) 0 b6_0 E_b6_0 [] [] pd_19 d21_19 fun T30 _ _ X30 hQ30 => ?_
  obtain ⟨rfl, N30, e30⟩ := hQ30
  replace N0 := Fr.app N0 N30
  refine oIN X30 H oD0 d21_24 (lA15_ o0 o1 b1 b6_0 o6) [] rfl ((if0 _ _).trans (feq (by decide : ¬ ((1 : Int32) = (0 : Int32)))).1) ?_
  refine oH X30 H r21_27_27 28 [(.ref b6_0)] ?_
  refine ocF X30 H (wb32_ hw) (rm25_79 hw Z0 g_b6_0 E_b6_0 F_this_0_b6_0 F_lastRet_b6_0 F_expectedModCount_b6_0 F_cursor_b6_0 (F_modCount_o3.keep K0 nin0) (F_elementData_o3.keep K0 nin0) (F_size_o3.keep K0 nin0) (V_o4.keep K0 nin0) (oNl F_modCount_o3.lt sz_b6_0) hp8) e30 0 b6_0 E_b6_0 [] [] pd_20 d21_28 fun T32 _ _ X32 hQ32 => ?_
  obtain ⟨rfl, N32, K32, E_b6_0', F_this_0_b6_0', _, _, F_cursor_b6_0'⟩ := hQ32
  replace N0 := Fr.app N0 N32
  replace E_b1 := E_b1.keep K32
  replace F_modCount_b1 := F_modCount_b1.keep K32 (ninS ne_b1_b6_0 nin0)
  replace F_elementData_b1 := F_elementData_b1.keep K32 (ninS ne_b1_b6_0 nin0)
  replace F_size_b1 := F_size_b1.keep K32 (ninS ne_b1_b6_0 nin0)
  replace V_b28_0 := V_b28_0.keep K32 (ninS (Ne.symm ne_b6_0_b28_0) nin0)
  replace OZ := OZ.keep K32 (allS g_b6_0 all0)
  replace K0 := K0.trans K32 (allS (Or.inr sz_b6_0) all0)
  replace Z0 := Nat.le_trans Z0 K32.1
  replace E_b6_0 := E_b6_0'
  have F_this_0_b6_0 := F_this_0_b6_0'
  have F_cursor_b6_0 := F_cursor_b6_0'
  refine oKst X32 H (hV hw 187) rfl (Ins.self (E_o7.keep K0)) d21_33 fun T33 X33 e33 => ?_
  refine oG X33 H r21_36_38 40 (lA15_ o0 o1 b1 b6_0 o7) [(.ref o7)] ?_
  refine ocV X33 H (wb33_ hw) (rm27_59 hw Z0 (F_name_o7.keep K0 nin0)) e33 0 o7 (E_o7.keep K0) [] [] pd_21 d21_40 fun T35 _ _ X35 hQ35 => ?_
  obtain ⟨rfl, N35, e35⟩ := hQ35
  replace N0 := Fr.app N0 N35
  refine oG X35 H r21_43_43 44 (lA15_ o0 o1 b1 b6_0 o7) [(.ref o1), (.ref o12)] ?_
  refine ocV X35 H (wb34_ hw) (rm28_eq hw Z0 OZ S_COMPACT_STRINGS hp3 (T_o12.keep K0) (T_o1.keep K0) ne_o12_o1 hp9) e35 0 o12 (own_Str.exa (T_o12.keep K0)) [(.ref o1)] [] pd_10 d21_44 fun T37 _ _ X37 hQ37 => ?_
  obtain ⟨rfl, N37, e37⟩ := hQ37
  replace N0 := Fr.app N0 N37
  refine oIN X37 H oD0 d21_47 (lA15_ o0 o1 b1 b6_0 o7) [] rfl ((if0 _ _).trans (feq (by decide : ¬ ((1 : Int32) = (0 : Int32)))).1) ?_
  refine oH X37 H r21_50_51 53 [(.ref o7), (.ref b1)] ?_
  refine ocV X37 H (wb35_ hw) (rm31_60 hw Z0 (F_value_o7.keep K0 nin0)) e37 1 o7 (E_o7.keep K0) [] [(.ref b1)] pd_20 d21_53 fun T39 _ _ X39 hQ39 => ?_
  obtain ⟨rfl, N39, e39⟩ := hQ39
  replace N0 := Fr.app N0 N39
  refine ocF X39 H (wb36_ hw) (rm15_70 hw Z0 g_b1 E_b1 F_modCount_b1 F_elementData_b1 F_size_b1 (E_o13.keep K0) g_b28_0 V_b28_0 Ov_k28_1) e39 0 b1 E_b1 [(.ref o13)] [] pd_10 d21_56 fun T41 _ _ X41 hQ41 => ?_
  obtain ⟨rfl, N41, K41, E_b1', F_modCount_b1', F_elementData_b1', F_size_b1', V_b28_0'⟩ := hQ41
  replace N0 := Fr.app N0 N41
  replace E_b6_0 := E_b6_0.keep K41
  replace F_this_0_b6_0 := F_this_0_b6_0.keep K41 (ninS (Ne.symm ne_b1_b6_0) (ninS ne_b6_0_b28_0 nin0))
  replace F_cursor_b6_0 := F_cursor_b6_0.keep K41 (ninS (Ne.symm ne_b1_b6_0) (ninS ne_b6_0_b28_0 nin0))
  replace K0 := K0.trans K41 (allS (Or.inr sz_b1) (allS (Or.inr sz_b28_0) all0))
  replace Z0 := Nat.le_trans Z0 K41.1
  replace E_b1 := E_b1'
  have F_modCount_b1 : Fld Z T41.heap b1 c4_ "modCount" "I" (.int (2 : Int32)) := F_modCount_b1'
  have F_elementData_b1 := F_elementData_b1'
  have F_size_b1 := F_size_b1'
  have V_b28_0 := V_b28_0'
  refine oB_ (tF_ T41 (mkF m 62 (lA15_ o0 o1 b1 b6_0 o7) [])) (fun t k => ?_) ?_
  · refine XS.pop X41.here hx rfl (hb hby d21_61) rfl rfl ?_
    exact k
  refine oH X41 H r21_62_18 19 [(.ref b6_0)] ?_
  refine ocF X41 H (wb22_ hw) (rm24_48 hw Z0 F_this_0_b6_0 F_cursor_b6_0 (F_size_o3.keep K0 nin0) hp10) (rfl : T41.heap = _) 0 b6_0 E_b6_0 [] [] pd_19 d21_19 fun T43 _ _ X43 hQ43 => ?_
  obtain ⟨rfl, N43, e43⟩ := hQ43
  replace N0 := Fr.app N0 N43
  refine oIY X43 H oD0 d21_24 65 (lA15_ o0 o1 b1 b6_0 o7) [] rfl ((if0 _ _).trans (teq (by decide : (0 : Int32) = (0 : Int32))).1) ?_
  refine oH X43 H r21_65_65 66 [(.ref b1)] ?_
  exact own_retR X43 Blk hx Bret rfl rfl rfl (hb hby d21_66) (by
      try rw [show T43.heap = T41.heap from e43]
      exact ⟨b1, b28_0, k28_1, rfl, N0, K0, E_b1, F_modCount_b1, F_elementData_b1, F_size_b1, V_b28_0, Ov_k28_1, sz_b1, sz_b28_0, ne_b1_b28_0⟩) dE_ dE_

set_option maxRecDepth 65536 in
set_option maxHeartbeats 40000000 in
theorem rm21_87 (hw : oW_ a0 Z) (Z0 : n0 ≤ h0.size) (F_members_o0 : Fld Z h0 o0 c7_ "members" c19_ (.ref o3)) (T_o1 : own_Str Z h0 o1 l0) (V_o2 : Arv Z h0 o2 k0 (.object c1_) (0 : Int32) [] .null) (E_o3 : Exa Z h0 o3 c0_) (F_modCount_o3 : Fld Z h0 o3 c4_ "modCount" "I" (.int i0)) (F_elementData_o3 : Fld Z h0 o3 c0_ "elementData" c3_ (.ref o4)) (F_size_o3 : Fld Z h0 o3 c0_ "size" "I" (.int i1)) (V_o4 : Arv Z h0 o4 k1 (.object c1_) (10 : Int32) [(.ref o5), (.ref o6), (.ref o7)] .null) (E_o5 : Exa Z h0 o5 c6_) (F_name_o5 : Fld Z h0 o5 c6_ "name" c9_ (.ref o8)) (E_o6 : Exa Z h0 o6 c6_) (F_name_o6 : Fld Z h0 o6 c6_ "name" c9_ (.ref o10)) (F_value_o6 : Fld Z h0 o6 c6_ "value" c11_ (.ref o11)) (E_o7 : Exa Z h0 o7 c6_) (F_name_o7 : Fld Z h0 o7 c6_ "name" c9_ (.ref o12)) (T_o8 : own_Str Z h0 o8 l1) (T_o10 : own_Str Z h0 o10 l2) (E_o11 : Exa Z h0 o11 c8_) (T_o12 : own_Str Z h0 o12 l3) (S_DEFAULTCAPACITY_EMPTY_ELEMENTDATA : Sta Z Z.heap c0_ c15_ c3_ (.ref o2)) (S_COMPACT_STRINGS : Sta Z Z.heap c2_ c13_ "Z" (.int i2)) (OZ : Old Z n0 h0) (hp0 : ¬ ((0 : Int32) = i1)) (hp1 : (0 : Int32) < i1) (hp2 : ¬ (l1 = l0)) (hp3 : ¬ (i2 = (0 : Int32))) (ne_o8_o1 : o8 ≠ o1) (hp4 : ¬ ((1 : Int32) = i1)) (hp5 : (1 : Int32) < i1) (hp6 : l2 = l0) (ne_o10_o1 : o10 ≠ o1) (hp7 : ¬ ((2 : Int32) = i1)) (hp8 : (2 : Int32) < i1) (hp9 : ¬ (l3 = l0)) (ne_o12_o1 : o12 ≠ o1) (hp10 : (3 : Int32) = i1) :
    oM l y13_ prog_24_method_2_code 5 (some (.object c12_)) ws (rM_ 5 3 17 69) #[(.ref o0), (.ref o1)] Z h0 (fun v h L => ∃ b1 : Addr, ∃ b28_0 : Addr, ∃ k28_1 : ClassId, v = some (.ref b1) ∧ Fr n0 L ∧ Keep h0 h [] ∧ Exa Z h b1 c0_ ∧ Fld Z h b1 c4_ "modCount" "I" (.int (1 : Int32)) ∧ Fld Z h b1 c0_ "elementData" c3_ (.ref b28_0) ∧ Fld Z h b1 c0_ "size" "I" (.int (1 : Int32)) ∧ Arv Z h b28_0 k28_1 (.object c1_) (10 : Int32) [(.ref o11)] .null ∧ Ovr Z k28_1 c1_ ∧ h0.size ≤ b1 ∧ h0.size ≤ b28_0 ∧ b1 ≠ b28_0) := by
  refine own_body c7_ (plainFor_of_name pn_21) (fun m => ef_21 m o0 o1) fun p e s m below meth c s₁ X0 H hnm Bret Blk e0 => ?_
  obtain ⟨hx, _, _, _, hby⟩ := id H
  have N0 := Fr.nil n0
  have K0 : Keep h0 h0 [] := Keep.refl h0 _
  refine oNw X0 H (hV hw 136) (hV hw 48) (hV hw 49) e0 d21_0 fun T1 h1 b1 X1 e1 E1 u1 E_b1 D1 => ?_
  have g_b1 := Nat.le_trans Z0 u1
  have sz_b1 := Nat.le_trans K0.1 u1
  replace OZ := OZ.ext E1
  replace K0 := K0.ext E1
  replace Z0 := Nat.le_trans Z0 E1.1
  have F_modCount_b1 : Fld Z h1 b1 c4_ "modCount" "I" oZ := D1 (Or.inl (hV hw 67)) (ty := .int) dE_
  have F_elementData_b1 : Fld Z h1 b1 c0_ "elementData" c3_ .null := D1 (Or.inl (hV hw 70)) (ty := (.array (.object c1_))) dE_
  have F_size_b1 : Fld Z h1 b1 c0_ "size" "I" oZ := D1 (Or.inl (hV hw 99)) (ty := .int) dE_
  refine oG X1 H r21_3_3 4 (lA12_ o0 o1) [(.ref b1), (.ref b1)] ?_
  refine ocI X1 H (wb19_ hw) (rm10_43 hw Z0 g_b1 E_b1 F_modCount_b1 F_elementData_b1 F_size_b1 S_DEFAULTCAPACITY_EMPTY_ELEMENTDATA OZ) e1 1 b1 [] [(.ref b1)] pd_3 d21_4 fun T3 _ _ X3 hQ3 => ?_
  obtain ⟨rfl, N3, K3, E_b1', F_modCount_b1', F_elementData_b1', F_size_b1'⟩ := hQ3
  replace N0 := Fr.app N0 N3
  replace OZ := OZ.keep K3 (allS g_b1 all0)
  replace K0 := K0.trans K3 (allS (Or.inr sz_b1) all0)
  replace Z0 := Nat.le_trans Z0 K3.1
  replace E_b1 := E_b1'
  have F_modCount_b1 := F_modCount_b1'
  have F_elementData_b1 := F_elementData_b1'
  have F_size_b1 := F_size_b1'
  refine oG X3 H r21_7_8 9 (lA13_ o0 o1 b1) [(.ref o0)] ?_
  refine oGf X3 H (hV hw 129) rfl (F_members_o0.keep K0 nin0) d21_9 fun T4 X4 e4 => ?_
  refine ocF X4 H (wb21_ hw) (rm22_47 hw Z0 (F_modCount_o3.keep K0 nin0)) e4 0 o3 (E_o3.keep K0) [] [] pd_17 d21_12 fun T6 _ _ X6 hQ6 => ?_
  obtain ⟨b6_0, rfl, N6, K6, E_b6_0', F_this_0_b6_0', F_lastRet_b6_0', F_expectedModCount_b6_0', F_cursor_b6_0', sz_b6_0'⟩ := hQ6
  replace N0 := Fr.app N0 N6
  have g_b6_0 := Nat.le_trans Z0 sz_b6_0'
  have sz_b6_0 := Nat.le_trans K0.1 sz_b6_0'
  have ne_b1_b6_0 := oNl E_b1.lt sz_b6_0'
  replace E_b1 := E_b1.keep K6
  replace F_modCount_b1 := F_modCount_b1.keep K6 nin0
  replace F_elementData_b1 := F_elementData_b1.keep K6 nin0
  replace F_size_b1 := F_size_b1.keep K6 nin0
  replace OZ := OZ.keep K6 all0
  replace K0 := K0.trans K6 all0
  replace Z0 := Nat.le_trans Z0 K6.1
  have E_b6_0 := E_b6_0'
  have F_this_0_b6_0 := F_this_0_b6_0'
  have F_lastRet_b6_0 := F_lastRet_b6_0'
  have F_expectedModCount_b6_0 := F_expectedModCount_b6_0'
  have F_cursor_b6_0 := F_cursor_b6_0'
  refine oG X6 H r21_17_18 19 (lA14_ o0 o1 b1 b6_0) [(.ref b6_0)] ?_
  refine ocF X6 H (wb22_ hw) (rm24_56 hw Z0 F_this_0_b6_0 F_cursor_b6_0 (F_size_o3.keep K0 nin0) hp0) (rfl : T6.heap = _) 0 b6_0 E_b6_0 [] [] pd_19 d21_19 fun T8 _ _ X8 hQ8 => ?_
  obtain ⟨rfl, N8, e8⟩ := hQ8
  replace N0 := Fr.app N0 N8
  refine oIN X8 H oD0 d21_24 (lA14_ o0 o1 b1 b6_0) [] rfl ((if0 _ _).trans (feq (by decide : ¬ ((1 : Int32) = (0 : Int32)))).1) ?_
  refine oH X8 H r21_27_27 28 [(.ref b6_0)] ?_
  refine ocF X8 H (wb32_ hw) (rm25_77 hw Z0 g_b6_0 E_b6_0 F_this_0_b6_0 F_lastRet_b6_0 F_expectedModCount_b6_0 F_cursor_b6_0 (F_modCount_o3.keep K0 nin0) (F_elementData_o3.keep K0 nin0) (F_size_o3.keep K0 nin0) (V_o4.keep K0 nin0) (oNl F_modCount_o3.lt sz_b6_0) hp1) e8 0 b6_0 E_b6_0 [] [] pd_20 d21_28 fun T10 _ _ X10 hQ10 => ?_
  obtain ⟨rfl, N10, K10, E_b6_0', F_this_0_b6_0', F_lastRet_b6_0', F_expectedModCount_b6_0', F_cursor_b6_0'⟩ := hQ10
  replace N0 := Fr.app N0 N10
  replace E_b1 := E_b1.keep K10
  replace F_modCount_b1 := F_modCount_b1.keep K10 (ninS ne_b1_b6_0 nin0)
  replace F_elementData_b1 := F_elementData_b1.keep K10 (ninS ne_b1_b6_0 nin0)
  replace F_size_b1 := F_size_b1.keep K10 (ninS ne_b1_b6_0 nin0)
  replace OZ := OZ.keep K10 (allS g_b6_0 all0)
  replace K0 := K0.trans K10 (allS (Or.inr sz_b6_0) all0)
  replace Z0 := Nat.le_trans Z0 K10.1
  replace E_b6_0 := E_b6_0'
  have F_this_0_b6_0 := F_this_0_b6_0'
  have F_lastRet_b6_0 := F_lastRet_b6_0'
  have F_expectedModCount_b6_0 := F_expectedModCount_b6_0'
  have F_cursor_b6_0 := F_cursor_b6_0'
  refine oKst X10 H (hV hw 187) rfl (Ins.self (E_o5.keep K0)) d21_33 fun T11 X11 e11 => ?_
  refine oG X11 H r21_36_38 40 (lA15_ o0 o1 b1 b6_0 o5) [(.ref o5)] ?_
  refine ocV X11 H (wb33_ hw) (rm27_59 hw Z0 (F_name_o5.keep K0 nin0)) e11 0 o5 (E_o5.keep K0) [] [] pd_21 d21_40 fun T13 _ _ X13 hQ13 => ?_
  obtain ⟨rfl, N13, e13⟩ := hQ13
  replace N0 := Fr.app N0 N13
  refine oG X13 H r21_43_43 44 (lA15_ o0 o1 b1 b6_0 o5) [(.ref o1), (.ref o8)] ?_
  refine ocV X13 H (wb34_ hw) (rm28_ne hw Z0 OZ S_COMPACT_STRINGS hp3 (T_o8.keep K0) (T_o1.keep K0) ne_o8_o1 hp2) e13 0 o8 (own_Str.exa (T_o8.keep K0)) [(.ref o1)] [] pd_10 d21_44 fun T15 _ _ X15 hQ15 => ?_
  obtain ⟨rfl, N15, e15⟩ := hQ15
  replace N0 := Fr.app N0 N15
  refine oIY X15 H oD0 d21_47 62 (lA15_ o0 o1 b1 b6_0 o5) [] rfl ((if0 _ _).trans (teq (by decide : (0 : Int32) = (0 : Int32))).1) ?_
  refine oH X15 H r21_62_18 19 [(.ref b6_0)] ?_
  refine ocF X15 H (wb22_ hw) (rm24_56 hw Z0 F_this_0_b6_0 F_cursor_b6_0 (F_size_o3.keep K0 nin0) hp4) e15 0 b6_0 E_b6_0 [] [] pd_19 d21_19 fun T17 _ _ X17 hQ17 => ?_
  obtain ⟨rfl, N17, e17⟩ := hQ17
  replace N0 := Fr.app N0 N17
  refine oIN X17 H oD0 d21_24 (lA15_ o0 o1 b1 b6_0 o5) [] rfl ((if0 _ _).trans (feq (by decide : ¬ ((1 : Int32) = (0 : Int32)))).1) ?_
  refine oH X17 H r21_27_27 28 [(.ref b6_0)] ?_
  refine ocF X17 H (wb32_ hw) (rm25_78 hw Z0 g_b6_0 E_b6_0 F_this_0_b6_0 F_lastRet_b6_0 F_expectedModCount_b6_0 F_cursor_b6_0 (F_modCount_o3.keep K0 nin0) (F_elementData_o3.keep K0 nin0) (F_size_o3.keep K0 nin0) (V_o4.keep K0 nin0) (oNl F_modCount_o3.lt sz_b6_0) hp5) e17 0 b6_0 E_b6_0 [] [] pd_20 d21_28 fun T19 _ _ X19 hQ19 => ?_
  obtain ⟨rfl, N19, K19, E_b6_0', F_this_0_b6_0', F_lastRet_b6_0', F_expectedModCount_b6_0', F_cursor_b6_0'⟩ := hQ19
  replace N0 := Fr.app N0 N19
  replace E_b1 := E_b1.keep K19
  replace F_modCount_b1 := F_modCount_b1.keep K19 (ninS ne_b1_b6_0 nin0)
  replace F_elementData_b1 := F_elementData_b1.keep K19 (ninS ne_b1_b6_0 nin0)
  replace F_size_b1 := F_size_b1.keep K19 (ninS ne_b1_b6_0 nin0)
  replace OZ := OZ.keep K19 (allS g_b6_0 all0)
  replace K0 := K0.trans K19 (allS (Or.inr sz_b6_0) all0)
  replace Z0 := Nat.le_trans Z0 K19.1
  replace E_b6_0 := E_b6_0'
  have F_this_0_b6_0 := F_this_0_b6_0'
  have F_lastRet_b6_0 := F_lastRet_b6_0'
  have F_expectedModCount_b6_0 := F_expectedModCount_b6_0'
  have F_cursor_b6_0 := F_cursor_b6_0'
  refine oKst X19 H (hV hw 187) rfl (Ins.self (E_o6.keep K0)) d21_33 fun T20 X20 e20 => ?_
  refine oG X20 H r21_36_38 40 (lA15_ o0 o1 b1 b6_0 o6) [(.ref o6)] ?_
  refine ocV X20 H (wb33_ hw) (rm27_59 hw Z0 (F_name_o6.keep K0 nin0)) e20 0 o6 (E_o6.keep K0) [] [] pd_21 d21_40 fun T22 _ _ X22 hQ22 => ?_
  obtain ⟨rfl, N22, e22⟩ := hQ22
  replace N0 := Fr.app N0 N22
  refine oG X22 H r21_43_43 44 (lA15_ o0 o1 b1 b6_0 o6) [(.ref o1), (.ref o10)] ?_
  refine ocV X22 H (wb34_ hw) (rm28_eq hw Z0 OZ S_COMPACT_STRINGS hp3 (T_o10.keep K0) (T_o1.keep K0) ne_o10_o1 hp6) e22 0 o10 (own_Str.exa (T_o10.keep K0)) [(.ref o1)] [] pd_10 d21_44 fun T24 _ _ X24 hQ24 => ?_
  obtain ⟨rfl, N24, e24⟩ := hQ24
  replace N0 := Fr.app N0 N24
  refine oIN X24 H oD0 d21_47 (lA15_ o0 o1 b1 b6_0 o6) [] rfl ((if0 _ _).trans (feq (by decide : ¬ ((1 : Int32) = (0 : Int32)))).1) ?_
  refine oH X24 H r21_50_51 53 [(.ref o6), (.ref b1)] ?_
  refine ocV X24 H (wb35_ hw) (rm31_60 hw Z0 (F_value_o6.keep K0 nin0)) e24 1 o6 (E_o6.keep K0) [] [(.ref b1)] pd_20 d21_53 fun T26 _ _ X26 hQ26 => ?_
  obtain ⟨rfl, N26, e26⟩ := hQ26
  replace N0 := Fr.app N0 N26
  refine ocF X26 H (wb36_ hw) (rm15_62 hw Z0 g_b1 E_b1 F_modCount_b1 F_elementData_b1 F_size_b1 (E_o11.keep K0) (V_o2.keep K0 nin0) S_DEFAULTCAPACITY_EMPTY_ELEMENTDATA OZ) e26 0 b1 E_b1 [(.ref o11)] [] pd_10 d21_56 fun T28 _ _ X28 hQ28 => ?_
  obtain ⟨b28_0, k28_1, rfl, N28, K28, E_b1', F_modCount_b1', F_elementData_b1', F_size_b1', V_b28_0', Ov_k28_1', sz_b28_0'⟩ := hQ28
  replace N0 := Fr.app N0 N28
  have sz_b28_0 := Nat.le_trans K0.1 sz_b28_0'
  have ne_b1_b28_0 := oNl E_b1.lt sz_b28_0'
  have ne_b6_0_b28_0 := oNl E_b6_0.lt sz_b28_0'
  replace E_b6_0 := E_b6_0.keep K28
  replace F_this_0_b6_0 := F_this_0_b6_0.keep K28 (ninS (Ne.symm ne_b1_b6_0) nin0)
  replace F_lastRet_b6_0 := F_lastRet_b6_0.keep K28 (ninS (Ne.symm ne_b1_b6_0) nin0)
  replace F_expectedModCount_b6_0 := F_expectedModCount_b6_0.keep K28 (ninS (Ne.symm ne_b1_b6_0) nin0)
  replace F_cursor_b6_0 := F_cursor_b6_0.keep K28 (ninS (Ne.symm ne_b1_b6_0) nin0)
  replace OZ := OZ.keep K28 (allS g_b1 all0)
  replace K0 := K0.trans K28 (allS (Or.inr sz_b1) all0)
  replace Z0 := Nat.le_trans Z0 K28.1
  replace E_b1 := E_b1'
  have F_modCount_b1 : Fld Z T28.heap b1 c4_ "modCount" "I" (.int (1 : Int32)) := F_modCount_b1'
  have F_elementData_b1 := F_elementData_b1'
  have F_size_b1 := F_size_b1'
  have V_b28_0 := V_b28_0'
  have Ov_k28_1 := Ov_k28_1'
  refine oB_ (tF_ T28 (mkF m 62 (lA15_ o0 o1 b1 b6_0 o6) [])) (fun t k => ?_) ?_
  · refine XS.pop X28.here hx rfl (hb hby d21_61) rfl rfl ?_
    exact k
  refine oH X28 H r21_62_18 19 [(.ref b6_0)] ?_
  refine ocF X28 H (wb22_ hw) (rm24_56 hw Z0 F_this_0_b6_0 F_cursor_b6_0 (F_size_o3.keep K0 nin0) hp7) (rfl : T28.heap = _) 0 b6_0 E_b6_0 [] [] pd_19 d21_19 fun T30 _ _ X30 hQ30 => ?_
  obtain ⟨rfl, N30, e30⟩ := hQ30
  replace N0 := Fr.app N0 N30
  refine oIN X30 H oD0 d21_24 (lA15_ o0 o1 b1 b6_0 o6) [] rfl ((if0 _ _).trans (feq (by decide : ¬ ((1 : Int32) = (0 : Int32)))).1) ?_
  refine oH X30 H r21_27_27 28 [(.ref b6_0)] ?_
  refine ocF X30 H (wb32_ hw) (rm25_79 hw Z0 g_b6_0 E_b6_0 F_this_0_b6_0 F_lastRet_b6_0 F_expectedModCount_b6_0 F_cursor_b6_0 (F_modCount_o3.keep K0 nin0) (F_elementData_o3.keep K0 nin0) (F_size_o3.keep K0 nin0) (V_o4.keep K0 nin0) (oNl F_modCount_o3.lt sz_b6_0) hp8) e30 0 b6_0 E_b6_0 [] [] pd_20 d21_28 fun T32 _ _ X32 hQ32 => ?_
  obtain ⟨rfl, N32, K32, E_b6_0', F_this_0_b6_0', _, _, F_cursor_b6_0'⟩ := hQ32
  replace N0 := Fr.app N0 N32
  replace E_b1 := E_b1.keep K32
  replace F_modCount_b1 := F_modCount_b1.keep K32 (ninS ne_b1_b6_0 nin0)
  replace F_elementData_b1 := F_elementData_b1.keep K32 (ninS ne_b1_b6_0 nin0)
  replace F_size_b1 := F_size_b1.keep K32 (ninS ne_b1_b6_0 nin0)
  replace V_b28_0 := V_b28_0.keep K32 (ninS (Ne.symm ne_b6_0_b28_0) nin0)
  replace OZ := OZ.keep K32 (allS g_b6_0 all0)
  replace K0 := K0.trans K32 (allS (Or.inr sz_b6_0) all0)
  replace Z0 := Nat.le_trans Z0 K32.1
  replace E_b6_0 := E_b6_0'
  have F_this_0_b6_0 := F_this_0_b6_0'
  have F_cursor_b6_0 := F_cursor_b6_0'
  refine oKst X32 H (hV hw 187) rfl (Ins.self (E_o7.keep K0)) d21_33 fun T33 X33 e33 => ?_
  refine oG X33 H r21_36_38 40 (lA15_ o0 o1 b1 b6_0 o7) [(.ref o7)] ?_
  refine ocV X33 H (wb33_ hw) (rm27_59 hw Z0 (F_name_o7.keep K0 nin0)) e33 0 o7 (E_o7.keep K0) [] [] pd_21 d21_40 fun T35 _ _ X35 hQ35 => ?_
  obtain ⟨rfl, N35, e35⟩ := hQ35
  replace N0 := Fr.app N0 N35
  refine oG X35 H r21_43_43 44 (lA15_ o0 o1 b1 b6_0 o7) [(.ref o1), (.ref o12)] ?_
  refine ocV X35 H (wb34_ hw) (rm28_ne hw Z0 OZ S_COMPACT_STRINGS hp3 (T_o12.keep K0) (T_o1.keep K0) ne_o12_o1 hp9) e35 0 o12 (own_Str.exa (T_o12.keep K0)) [(.ref o1)] [] pd_10 d21_44 fun T37 _ _ X37 hQ37 => ?_
  obtain ⟨rfl, N37, e37⟩ := hQ37
  replace N0 := Fr.app N0 N37
  refine oIY X37 H oD0 d21_47 62 (lA15_ o0 o1 b1 b6_0 o7) [] rfl ((if0 _ _).trans (teq (by decide : (0 : Int32) = (0 : Int32))).1) ?_
  refine oH X37 H r21_62_18 19 [(.ref b6_0)] ?_
  refine ocF X37 H (wb22_ hw) (rm24_48 hw Z0 F_this_0_b6_0 F_cursor_b6_0 (F_size_o3.keep K0 nin0) hp10) e37 0 b6_0 E_b6_0 [] [] pd_19 d21_19 fun T39 _ _ X39 hQ39 => ?_
  obtain ⟨rfl, N39, e39⟩ := hQ39
  replace N0 := Fr.app N0 N39
  refine oIY X39 H oD0 d21_24 65 (lA15_ o0 o1 b1 b6_0 o7) [] rfl ((if0 _ _).trans (teq (by decide : (0 : Int32) = (0 : Int32))).1) ?_
  refine oH X39 H r21_65_65 66 [(.ref b1)] ?_
  exact own_retR X39 Blk hx Bret rfl rfl rfl (hb hby d21_66) (by
      try rw [show T39.heap = T32.heap from e39]
      exact ⟨b1, b28_0, k28_1, rfl, N0, K0, E_b1, F_modCount_b1, F_elementData_b1, F_size_b1, V_b28_0, Ov_k28_1, sz_b1, sz_b28_0, ne_b1_b28_0⟩) dE_ dE_

set_option maxRecDepth 65536 in
set_option maxHeartbeats 40000000 in
theorem rm21_88 (hw : oW_ a0 Z) (Z0 : n0 ≤ h0.size) (F_members_o0 : Fld Z h0 o0 c7_ "members" c19_ (.ref o3)) (T_o1 : own_Str Z h0 o1 l0) (V_o2 : Arv Z h0 o2 k0 (.object c1_) (0 : Int32) [] .null) (E_o3 : Exa Z h0 o3 c0_) (F_modCount_o3 : Fld Z h0 o3 c4_ "modCount" "I" (.int i0)) (F_elementData_o3 : Fld Z h0 o3 c0_ "elementData" c3_ (.ref o4)) (F_size_o3 : Fld Z h0 o3 c0_ "size" "I" (.int i1)) (V_o4 : Arv Z h0 o4 k1 (.object c1_) (10 : Int32) [(.ref o5), (.ref o6), (.ref o7)] .null) (E_o5 : Exa Z h0 o5 c6_) (F_name_o5 : Fld Z h0 o5 c6_ "name" c9_ (.ref o8)) (E_o6 : Exa Z h0 o6 c6_) (F_name_o6 : Fld Z h0 o6 c6_ "name" c9_ (.ref o10)) (E_o7 : Exa Z h0 o7 c6_) (F_name_o7 : Fld Z h0 o7 c6_ "name" c9_ (.ref o12)) (F_value_o7 : Fld Z h0 o7 c6_ "value" c11_ (.ref o13)) (T_o8 : own_Str Z h0 o8 l1) (T_o10 : own_Str Z h0 o10 l2) (T_o12 : own_Str Z h0 o12 l3) (E_o13 : Exa Z h0 o13 c8_) (S_DEFAULTCAPACITY_EMPTY_ELEMENTDATA : Sta Z Z.heap c0_ c15_ c3_ (.ref o2)) (S_COMPACT_STRINGS : Sta Z Z.heap c2_ c13_ "Z" (.int i2)) (OZ : Old Z n0 h0) (hp0 : ¬ ((0 : Int32) = i1)) (hp1 : (0 : Int32) < i1) (hp2 : ¬ (l1 = l0)) (hp3 : ¬ (i2 = (0 : Int32))) (ne_o8_o1 : o8 ≠ o1) (hp4 : ¬ ((1 : Int32) = i1)) (hp5 : (1 : Int32) < i1) (hp6 : ¬ (l2 = l0)) (ne_o10_o1 : o10 ≠ o1) (hp7 : ¬ ((2 : Int32) = i1)) (hp8 : (2 : Int32) < i1) (hp9 : l3 = l0) (ne_o12_o1 : o12 ≠ o1) (hp10 : (3 : Int32) = i1) :
    oM l y13_ prog_24_method_2_code 5 (some (.object c12_)) ws (rM_ 5 3 17 69) #[(.ref o0), (.ref o1)] Z h0 (fun v h L => ∃ b1 : Addr, ∃ b37_0 : Addr, ∃ k37_1 : ClassId, v = some (.ref b1) ∧ Fr n0 L ∧ Keep h0 h [] ∧ Exa Z h b1 c0_ ∧ Fld Z h b1 c4_ "modCount" "I" (.int (1 : Int32)) ∧ Fld Z h b1 c0_ "elementData" c3_ (.ref b37_0) ∧ Fld Z h b1 c0_ "size" "I" (.int (1 : Int32)) ∧ Arv Z h b37_0 k37_1 (.object c1_) (10 : Int32) [(.ref o13)] .null ∧ Ovr Z k37_1 c1_ ∧ h0.size ≤ b1 ∧ h0.size ≤ b37_0 ∧ b1 ≠ b37_0) := by
  refine own_body c7_ (plainFor_of_name pn_21) (fun m => ef_21 m o0 o1) fun p e s m below meth c s₁ X0 H hnm Bret Blk e0 => ?_
  obtain ⟨hx, _, _, _, hby⟩ := id H
  have N0 := Fr.nil n0
  have K0 : Keep h0 h0 [] := Keep.refl h0 _
  refine oNw X0 H (hV hw 136) (hV hw 48) (hV hw 49) e0 d21_0 fun T1 h1 b1 X1 e1 E1 u1 E_b1 D1 => ?_
  have g_b1 := Nat.le_trans Z0 u1
  have sz_b1 := Nat.le_trans K0.1 u1
  replace OZ := OZ.ext E1
  replace K0 := K0.ext E1
  replace Z0 := Nat.le_trans Z0 E1.1
  have F_modCount_b1 : Fld Z h1 b1 c4_ "modCount" "I" oZ := D1 (Or.inl (hV hw 67)) (ty := .int) dE_
  have F_elementData_b1 : Fld Z h1 b1 c0_ "elementData" c3_ .null := D1 (Or.inl (hV hw 70)) (ty := (.array (.object c1_))) dE_
  have F_size_b1 : Fld Z h1 b1 c0_ "size" "I" oZ := D1 (Or.inl (hV hw 99)) (ty := .int) dE_
  refine oG X1 H r21_3_3 4 (lA12_ o0 o1) [(.ref b1), (.ref b1)] ?_
  refine ocI X1 H (wb19_ hw) (rm10_43 hw Z0 g_b1 E_b1 F_modCount_b1 F_elementData_b1 F_size_b1 S_DEFAULTCAPACITY_EMPTY_ELEMENTDATA OZ) e1 1 b1 [] [(.ref b1)] pd_3 d21_4 fun T3 _ _ X3 hQ3 => ?_
  obtain ⟨rfl, N3, K3, E_b1', F_modCount_b1', F_elementData_b1', F_size_b1'⟩ := hQ3
  replace N0 := Fr.app N0 N3
  replace OZ := OZ.keep K3 (allS g_b1 all0)
  replace K0 := K0.trans K3 (allS (Or.inr sz_b1) all0)
  replace Z0 := Nat.le_trans Z0 K3.1
  replace E_b1 := E_b1'
  have F_modCount_b1 := F_modCount_b1'
  have F_elementData_b1 := F_elementData_b1'
  have F_size_b1 := F_size_b1'
  refine oG X3 H r21_7_8 9 (lA13_ o0 o1 b1) [(.ref o0)] ?_
  refine oGf X3 H (hV hw 129) rfl (F_members_o0.keep K0 nin0) d21_9 fun T4 X4 e4 => ?_
  refine ocF X4 H (wb21_ hw) (rm22_47 hw Z0 (F_modCount_o3.keep K0 nin0)) e4 0 o3 (E_o3.keep K0) [] [] pd_17 d21_12 fun T6 _ _ X6 hQ6 => ?_
  obtain ⟨b6_0, rfl, N6, K6, E_b6_0', F_this_0_b6_0', F_lastRet_b6_0', F_expectedModCount_b6_0', F_cursor_b6_0', sz_b6_0'⟩ := hQ6
  replace N0 := Fr.app N0 N6
  have g_b6_0 := Nat.le_trans Z0 sz_b6_0'
  have sz_b6_0 := Nat.le_trans K0.1 sz_b6_0'
  have ne_b1_b6_0 := oNl E_b1.lt sz_b6_0'
  replace E_b1 := E_b1.keep K6
  replace F_modCount_b1 := F_modCount_b1.keep K6 nin0
  replace F_elementData_b1 := F_elementData_b1.keep K6 nin0
  replace F_size_b1 := F_size_b1.keep K6 nin0
  replace OZ := OZ.keep K6 all0
  replace K0 := K0.trans K6 all0
  replace Z0 := Nat.le_trans Z0 K6.1
  have E_b6_0 := E_b6_0'
  have F_this_0_b6_0 := F_this_0_b6_0'
  have F_lastRet_b6_0 := F_lastRet_b6_0'
  have F_expectedModCount_b6_0 := F_expectedModCount_b6_0'
  have F_cursor_b6_0 := F_cursor_b6_0'
  refine oG X6 H r21_17_18 19 (lA14_ o0 o1 b1 b6_0) [(.ref b6_0)] ?_
  refine ocF X6 H (wb22_ hw) (rm24_56 hw Z0 F_this_0_b6_0 F_cursor_b6_0 (F_size_o3.keep K0 nin0) hp0) (rfl : T6.heap = _) 0 b6_0 E_b6_0 [] [] pd_19 d21_19 fun T8 _ _ X8 hQ8 => ?_
  obtain ⟨rfl, N8, e8⟩ := hQ8
  replace N0 := Fr.app N0 N8
  refine oIN X8 H oD0 d21_24 (lA14_ o0 o1 b1 b6_0) [] rfl ((if0 _ _).trans (feq (by decide : ¬ ((1 : Int32) = (0 : Int32)))).1) ?_
  refine oH X8 H r21_27_27 28 [(.ref b6_0)] ?_
  refine ocF X8 H (wb32_ hw) (rm25_77 hw Z0 g_b6_0 E_b6_0 F_this_0_b6_0 F_lastRet_b6_0 F_expectedModCount_b6_0 F_cursor_b6_0 (F_modCount_o3.keep K0 nin0) (F_elementData_o3.keep K0 nin0) (F_size_o3.keep K0 nin0) (V_o4.keep K0 nin0) (oNl F_modCount_o3.lt sz_b6_0) hp1) e8 0 b6_0 E_b6_0 [] [] pd_20 d21_28 fun T10 _ _ X10 hQ10 => ?_
  obtain ⟨rfl, N10, K10, E_b6_0', F_this_0_b6_0', F_lastRet_b6_0', F_expectedModCount_b6_0', F_cursor_b6_0'⟩ := hQ10
  replace N0 := Fr.app N0 N10
  replace E_b1 := E_b1.keep K10
  replace F_modCount_b1 := F_modCount_b1.keep K10 (ninS ne_b1_b6_0 nin0)
  replace F_elementData_b1 := F_elementData_b1.keep K10 (ninS ne_b1_b6_0 nin0)
  replace F_size_b1 := F_size_b1.keep K10 (ninS ne_b1_b6_0 nin0)
  replace OZ := OZ.keep K10 (allS g_b6_0 all0)
  replace K0 := K0.trans K10 (allS (Or.inr sz_b6_0) all0)
  replace Z0 := Nat.le_trans Z0 K10.1
  replace E_b6_0 := E_b6_0'
  have F_this_0_b6_0 := F_this_0_b6_0'
  have F_lastRet_b6_0 := F_lastRet_b6_0'
  have F_expectedModCount_b6_0 := F_expectedModCount_b6_0'
  have F_cursor_b6_0 := F_cursor_b6_0'
  refine oKst X10 H (hV hw 187) rfl (Ins.self (E_o5.keep K0)) d21_33 fun T11 X11 e11 => ?_
  refine oG X11 H r21_36_38 40 (lA15_ o0 o1 b1 b6_0 o5) [(.ref o5)] ?_
  refine ocV X11 H (wb33_ hw) (rm27_59 hw Z0 (F_name_o5.keep K0 nin0)) e11 0 o5 (E_o5.keep K0) [] [] pd_21 d21_40 fun T13 _ _ X13 hQ13 => ?_
  obtain ⟨rfl, N13, e13⟩ := hQ13
  replace N0 := Fr.app N0 N13
  refine oG X13 H r21_43_43 44 (lA15_ o0 o1 b1 b6_0 o5) [(.ref o1), (.ref o8)] ?_
  refine ocV X13 H (wb34_ hw) (rm28_ne hw Z0 OZ S_COMPACT_STRINGS hp3 (T_o8.keep K0) (T_o1.keep K0) ne_o8_o1 hp2) e13 0 o8 (own_Str.exa (T_o8.keep K0)) [(.ref o1)] [] pd_10 d21_44 fun T15 _ _ X15 hQ15 => ?_
  obtain ⟨rfl, N15, e15⟩ := hQ15
  replace N0 := Fr.app N0 N15
  refine oIY X15 H oD0 d21_47 62 (lA15_ o0 o1 b1 b6_0 o5) [] rfl ((if0 _ _).trans (teq (by decide : (0 : Int32) = (0 : Int32))).1) ?_
  refine oH X15 H r21_62_18 19 [(.ref b6_0)] ?_
  refine ocF X15 H (wb22_ hw) (rm24_56 hw Z0 F_this_0_b6_0 F_cursor_b6_0 (F_size_o3.keep K0 nin0) hp4) e15 0 b6_0 E_b6_0 [] [] pd_19 d21_19 fun T17 _ _ X17 hQ17 => ?_
  obtain ⟨rfl, N17, e17⟩ := hQ17
  replace N0 := Fr.app N0 N17
  refine oIN X17 H oD0 d21_24 (lA15_ o0 o1 b1 b6_0 o5) [] rfl ((if0 _ _).trans (feq (by decide : ¬ ((1 : Int32) = (0 : Int32)))).1) ?_
  refine oH X17 H r21_27_27 28 [(.ref b6_0)] ?_
  refine ocF X17 H (wb32_ hw) (rm25_78 hw Z0 g_b6_0 E_b6_0 F_this_0_b6_0 F_lastRet_b6_0 F_expectedModCount_b6_0 F_cursor_b6_0 (F_modCount_o3.keep K0 nin0) (F_elementData_o3.keep K0 nin0) (F_size_o3.keep K0 nin0) (V_o4.keep K0 nin0) (oNl F_modCount_o3.lt sz_b6_0) hp5) e17 0 b6_0 E_b6_0 [] [] pd_20 d21_28 fun T19 _ _ X19 hQ19 => ?_
  obtain ⟨rfl, N19, K19, E_b6_0', F_this_0_b6_0', F_lastRet_b6_0', F_expectedModCount_b6_0', F_cursor_b6_0'⟩ := hQ19
  replace N0 := Fr.app N0 N19
  replace E_b1 := E_b1.keep K19
  replace F_modCount_b1 := F_modCount_b1.keep K19 (ninS ne_b1_b6_0 nin0)
  replace F_elementData_b1 := F_elementData_b1.keep K19 (ninS ne_b1_b6_0 nin0)
  replace F_size_b1 := F_size_b1.keep K19 (ninS ne_b1_b6_0 nin0)
  replace OZ := OZ.keep K19 (allS g_b6_0 all0)
  replace K0 := K0.trans K19 (allS (Or.inr sz_b6_0) all0)
  replace Z0 := Nat.le_trans Z0 K19.1
  replace E_b6_0 := E_b6_0'
  have F_this_0_b6_0 := F_this_0_b6_0'
  have F_lastRet_b6_0 := F_lastRet_b6_0'
  have F_expectedModCount_b6_0 := F_expectedModCount_b6_0'
  have F_cursor_b6_0 := F_cursor_b6_0'
  refine oKst X19 H (hV hw 187) rfl (Ins.self (E_o6.keep K0)) d21_33 fun T20 X20 e20 => ?_
  refine oG X20 H r21_36_38 40 (lA15_ o0 o1 b1 b6_0 o6) [(.ref o6)] ?_
  refine ocV X20 H (wb33_ hw) (rm27_59 hw Z0 (F_name_o6.keep K0 nin0)) e20 0 o6 (E_o6.keep K0) [] [] pd_21 d21_40 fun T22 _ _ X22 hQ22 => ?_
  obtain ⟨rfl, N22, e22⟩ := hQ22
  replace N0 := Fr.app N0 N22
  refine oG X22 H r21_43_43 44 (lA15_ o0 o1 b1 b6_0 o6) [(.ref o1), (.ref o10)] ?_
  refine ocV X22 H (wb34_ hw) (rm28_ne hw Z0 OZ S_COMPACT_STRINGS hp3 (T_o10.keep K0) (T_o1.keep K0) ne_o10_o1 hp6) e22 0 o10 (own_Str.exa (T_o10.keep K0)) [(.ref o1)] [] pd_10 d21_44 fun T24 _ _ X24 hQ24 => ?_
  obtain ⟨rfl, N24, e24⟩ := hQ24
  replace N0 := Fr.app N0 N24
  refine oIY X24 H oD0 d21_47 62 (lA15_ o0 o1 b1 b6_0 o6) [] rfl ((if0 _ _).trans (teq (by decide : (0 : Int32) = (0 : Int32))).1) ?_
  refine oH X24 H r21_62_18 19 [(.ref b6_0)] ?_
  refine ocF X24 H (wb22_ hw) (rm24_56 hw Z0 F_this_0_b6_0 F_cursor_b6_0 (F_size_o3.keep K0 nin0) hp7) e24 0 b6_0 E_b6_0 [] [] pd_19 d21_19 fun T26 _ _ X26 hQ26 => ?_
  obtain ⟨rfl, N26, e26⟩ := hQ26
  replace N0 := Fr.app N0 N26
  refine oIN X26 H oD0 d21_24 (lA15_ o0 o1 b1 b6_0 o6) [] rfl ((if0 _ _).trans (feq (by decide : ¬ ((1 : Int32) = (0 : Int32)))).1) ?_
  refine oH X26 H r21_27_27 28 [(.ref b6_0)] ?_
  refine ocF X26 H (wb32_ hw) (rm25_79 hw Z0 g_b6_0 E_b6_0 F_this_0_b6_0 F_lastRet_b6_0 F_expectedModCount_b6_0 F_cursor_b6_0 (F_modCount_o3.keep K0 nin0) (F_elementData_o3.keep K0 nin0) (F_size_o3.keep K0 nin0) (V_o4.keep K0 nin0) (oNl F_modCount_o3.lt sz_b6_0) hp8) e26 0 b6_0 E_b6_0 [] [] pd_20 d21_28 fun T28 _ _ X28 hQ28 => ?_
  obtain ⟨rfl, N28, K28, E_b6_0', F_this_0_b6_0', _, _, F_cursor_b6_0'⟩ := hQ28
  replace N0 := Fr.app N0 N28
  replace E_b1 := E_b1.keep K28
  replace F_modCount_b1 := F_modCount_b1.keep K28 (ninS ne_b1_b6_0 nin0)
  replace F_elementData_b1 := F_elementData_b1.keep K28 (ninS ne_b1_b6_0 nin0)
  replace F_size_b1 := F_size_b1.keep K28 (ninS ne_b1_b6_0 nin0)
  replace OZ := OZ.keep K28 (allS g_b6_0 all0)
  replace K0 := K0.trans K28 (allS (Or.inr sz_b6_0) all0)
  replace Z0 := Nat.le_trans Z0 K28.1
  replace E_b6_0 := E_b6_0'
  have F_this_0_b6_0 := F_this_0_b6_0'
  have F_cursor_b6_0 := F_cursor_b6_0'
  refine oKst X28 H (hV hw 187) rfl (Ins.self (E_o7.keep K0)) d21_33 fun T29 X29 e29 => ?_
  refine oG X29 H r21_36_38 40 (lA15_ o0 o1 b1 b6_0 o7) [(.ref o7)] ?_
  refine ocV X29 H (wb33_ hw) (rm27_59 hw Z0 (F_name_o7.keep K0 nin0)) e29 0 o7 (E_o7.keep K0) [] [] pd_21 d21_40 fun T31 _ _ X31 hQ31 => ?_
  obtain ⟨rfl, N31, e31⟩ := hQ31
  replace N0 := Fr.app N0 N31
  refine oG X31 H r21_43_43 44 (lA15_ o0 o1 b1 b6_0 o7) [(.ref o1), (.ref o12)] ?_
  refine ocV X31 H (wb34_ hw) (rm28_eq hw Z0 OZ S_COMPACT_STRINGS hp3 (T_o12.keep K0) (T_o1.keep K0) ne_o12_o1 hp9) e31 0 o12 (own_Str.exa (T_o12.keep K0)) [(.ref o1)] [] pd_10 d21_44 fun T33 _ _ X33 hQ33 => ?_
  obtain ⟨rfl, N33, e33⟩ := hQ33
  replace N0 := Fr.app N0 N33
  refine oIN X33 H oD0 d21_47 (lA15_ o0 o1 b1 b6_0 o7) [] rfl ((if0 _ _).trans (feq (by decide : ¬ ((1 : Int32) = (0 : Int32)))).1) ?_
  refine oH X33 H r21_50_51 53 [(.ref o7), (.ref b1)] ?_
  refine ocV X33 H (wb35_ hw) (rm31_60 hw Z0 (F_value_o7.keep K0 nin0)) e33 1 o7 (E_o7.keep K0) [] [(.ref b1)] pd_20 d21_53 fun T35 _ _ X35 hQ35 => ?_
  obtain ⟨rfl, N35, e35⟩ := hQ35
  replace N0 := Fr.app N0 N35
  refine ocF X35 H (wb36_ hw) (rm15_62 hw Z0 g_b1 E_b1 F_modCount_b1 F_elementData_b1 F_size_b1 (E_o13.keep K0) (V_o2.keep K0 nin0) S_DEFAULTCAPACITY_EMPTY_ELEMENTDATA OZ) e35 0 b1 E_b1 [(.ref o13)] [] pd_10 d21_56 fun T37 _ _ X37 hQ37 => ?_
  obtain ⟨b37_0, k37_1, rfl, N37, K37, E_b1', F_modCount_b1', F_elementData_b1', F_size_b1', V_b37_0', Ov_k37_1', sz_b37_0'⟩ := hQ37
  replace N0 := Fr.app N0 N37
  have sz_b37_0 := Nat.le_trans K0.1 sz_b37_0'
  have ne_b1_b37_0 := oNl E_b1.lt sz_b37_0'
  replace E_b6_0 := E_b6_0.keep K37
  replace F_this_0_b6_0 := F_this_0_b6_0.keep K37 (ninS (Ne.symm ne_b1_b6_0) nin0)
  replace F_cursor_b6_0 := F_cursor_b6_0.keep K37 (ninS (Ne.symm ne_b1_b6_0) nin0)
  replace K0 := K0.trans K37 (allS (Or.inr sz_b1) all0)
  replace Z0 := Nat.le_trans Z0 K37.1
  replace E_b1 := E_b1'
  have F_modCount_b1 : Fld Z T37.heap b1 c4_ "modCount" "I" (.int (1 : Int32)) := F_modCount_b1'
  have F_elementData_b1 := F_elementData_b1'
  have F_size_b1 := F_size_b1'
  have V_b37_0 := V_b37_0'
  have Ov_k37_1 := Ov_k37_1'
  refine oB_ (tF_ T37 (mkF m 62 (lA15_ o0 o1 b1 b6_0 o7) [])) (fun t k => ?_) ?_
  · refine XS.pop X37.here hx rfl (hb hby d21_61) rfl rfl ?_
    exact k
  refine oH X37 H r21_62_18 19 [(.ref b6_0)] ?_
  refine ocF X37 H (wb22_ hw) (rm24_48 hw Z0 F_this_0_b6_0 F_cursor_b6_0 (F_size_o3.keep K0 nin0) hp10) (rfl : T37.heap = _) 0 b6_0 E_b6_0 [] [] pd_19 d21_19 fun T39 _ _ X39 hQ39 => ?_
  obtain ⟨rfl, N39, e39⟩ := hQ39
  replace N0 := Fr.app N0 N39
  refine oIY X39 H oD0 d21_24 65 (lA15_ o0 o1 b1 b6_0 o7) [] rfl ((if0 _ _).trans (teq (by decide : (0 : Int32) = (0 : Int32))).1) ?_
  refine oH X39 H r21_65_65 66 [(.ref b1)] ?_
  exact own_retR X39 Blk hx Bret rfl rfl rfl (hb hby d21_66) (by
      try rw [show T39.heap = T37.heap from e39]
      exact ⟨b1, b37_0, k37_1, rfl, N0, K0, E_b1, F_modCount_b1, F_elementData_b1, F_size_b1, V_b37_0, Ov_k37_1, sz_b1, sz_b37_0, ne_b1_b37_0⟩) dE_ dE_

set_option maxRecDepth 65536 in
set_option maxHeartbeats 40000000 in
theorem rm21_89 (hw : oW_ a0 Z) (Z0 : n0 ≤ h0.size) (F_members_o0 : Fld Z h0 o0 c7_ "members" c19_ (.ref o3)) (T_o1 : own_Str Z h0 o1 l0) (E_o3 : Exa Z h0 o3 c0_) (F_modCount_o3 : Fld Z h0 o3 c4_ "modCount" "I" (.int i0)) (F_elementData_o3 : Fld Z h0 o3 c0_ "elementData" c3_ (.ref o4)) (F_size_o3 : Fld Z h0 o3 c0_ "size" "I" (.int i1)) (V_o4 : Arv Z h0 o4 k1 (.object c1_) (10 : Int32) [(.ref o5), (.ref o6), (.ref o7)] .null) (E_o5 : Exa Z h0 o5 c6_) (F_name_o5 : Fld Z h0 o5 c6_ "name" c9_ (.ref o8)) (E_o6 : Exa Z h0 o6 c6_) (F_name_o6 : Fld Z h0 o6 c6_ "name" c9_ (.ref o10)) (E_o7 : Exa Z h0 o7 c6_) (F_name_o7 : Fld Z h0 o7 c6_ "name" c9_ (.ref o12)) (T_o8 : own_Str Z h0 o8 l1) (T_o10 : own_Str Z h0 o10 l2) (T_o12 : own_Str Z h0 o12 l3) (S_DEFAULTCAPACITY_EMPTY_ELEMENTDATA : Sta Z Z.heap c0_ c15_ c3_ (.ref o2)) (S_COMPACT_STRINGS : Sta Z Z.heap c2_ c13_ "Z" (.int i2)) (OZ : Old Z n0 h0) (hp0 : ¬ ((0 : Int32) = i1)) (hp1 : (0 : Int32) < i1) (hp2 : ¬ (l1 = l0)) (hp3 : ¬ (i2 = (0 : Int32))) (ne_o8_o1 : o8 ≠ o1) (hp4 : ¬ ((1 : Int32) = i1)) (hp5 : (1 : Int32) < i1) (hp6 : ¬ (l2 = l0)) (ne_o10_o1 : o10 ≠ o1) (hp7 : ¬ ((2 : Int32) = i1)) (hp8 : (2 : Int32) < i1) (hp9 : ¬ (l3 = l0)) (ne_o12_o1 : o12 ≠ o1) (hp10 : (3 : Int32) = i1) :
    oM l y13_ prog_24_method_2_code 5 (some (.object c12_)) ws (rM_ 4 2 7 49) #[(.ref o0), (.ref o1)] Z h0 (fun v h L => ∃ b1 : Addr, v = some (.ref b1) ∧ Fr n0 L ∧ Keep h0 h [] ∧ Exa Z h b1 c0_ ∧ Fld Z h b1 c4_ "modCount" "I" oZ ∧ Fld Z h b1 c0_ "elementData" c3_ (.ref o2) ∧ Fld Z h b1 c0_ "size" "I" oZ ∧ h0.size ≤ b1) := by
  refine own_body c7_ (plainFor_of_name pn_21) (fun m => ef_21 m o0 o1) fun p e s m below meth c s₁ X0 H hnm Bret Blk e0 => ?_
  obtain ⟨hx, _, _, _, hby⟩ := id H
  have N0 := Fr.nil n0
  have K0 : Keep h0 h0 [] := Keep.refl h0 _
  refine oNw X0 H (hV hw 136) (hV hw 48) (hV hw 49) e0 d21_0 fun T1 h1 b1 X1 e1 E1 u1 E_b1 D1 => ?_
  have g_b1 := Nat.le_trans Z0 u1
  have sz_b1 := Nat.le_trans K0.1 u1
  replace OZ := OZ.ext E1
  replace K0 := K0.ext E1
  replace Z0 := Nat.le_trans Z0 E1.1
  have F_modCount_b1 : Fld Z h1 b1 c4_ "modCount" "I" oZ := D1 (Or.inl (hV hw 67)) (ty := .int) dE_
  have F_elementData_b1 : Fld Z h1 b1 c0_ "elementData" c3_ .null := D1 (Or.inl (hV hw 70)) (ty := (.array (.object c1_))) dE_
  have F_size_b1 : Fld Z h1 b1 c0_ "size" "I" oZ := D1 (Or.inl (hV hw 99)) (ty := .int) dE_
  refine oG X1 H r21_3_3 4 (lA12_ o0 o1) [(.ref b1), (.ref b1)] ?_
  refine ocI X1 H (wb19_ hw) (rm10_43 hw Z0 g_b1 E_b1 F_modCount_b1 F_elementData_b1 F_size_b1 S_DEFAULTCAPACITY_EMPTY_ELEMENTDATA OZ) e1 1 b1 [] [(.ref b1)] pd_3 d21_4 fun T3 _ _ X3 hQ3 => ?_
  obtain ⟨rfl, N3, K3, E_b1', F_modCount_b1', F_elementData_b1', F_size_b1'⟩ := hQ3
  replace N0 := Fr.app N0 N3
  replace OZ := OZ.keep K3 (allS g_b1 all0)
  replace K0 := K0.trans K3 (allS (Or.inr sz_b1) all0)
  replace Z0 := Nat.le_trans Z0 K3.1
  replace E_b1 := E_b1'
  have F_modCount_b1 := F_modCount_b1'
  have F_elementData_b1 := F_elementData_b1'
  have F_size_b1 := F_size_b1'
  refine oG X3 H r21_7_8 9 (lA13_ o0 o1 b1) [(.ref o0)] ?_
  refine oGf X3 H (hV hw 129) rfl (F_members_o0.keep K0 nin0) d21_9 fun T4 X4 e4 => ?_
  refine ocF X4 H (wb21_ hw) (rm22_47 hw Z0 (F_modCount_o3.keep K0 nin0)) e4 0 o3 (E_o3.keep K0) [] [] pd_17 d21_12 fun T6 _ _ X6 hQ6 => ?_
  obtain ⟨b6_0, rfl, N6, K6, E_b6_0', F_this_0_b6_0', F_lastRet_b6_0', F_expectedModCount_b6_0', F_cursor_b6_0', sz_b6_0'⟩ := hQ6
  replace N0 := Fr.app N0 N6
  have g_b6_0 := Nat.le_trans Z0 sz_b6_0'
  have sz_b6_0 := Nat.le_trans K0.1 sz_b6_0'
  have ne_b1_b6_0 := oNl E_b1.lt sz_b6_0'
  replace E_b1 := E_b1.keep K6
  replace F_modCount_b1 := F_modCount_b1.keep K6 nin0
  replace F_elementData_b1 := F_elementData_b1.keep K6 nin0
  replace F_size_b1 := F_size_b1.keep K6 nin0
  replace OZ := OZ.keep K6 all0
  replace K0 := K0.trans K6 all0
  replace Z0 := Nat.le_trans Z0 K6.1
  have E_b6_0 := E_b6_0'
  have F_this_0_b6_0 := F_this_0_b6_0'
  have F_lastRet_b6_0 := F_lastRet_b6_0'
  have F_expectedModCount_b6_0 := F_expectedModCount_b6_0'
  have F_cursor_b6_0 := F_cursor_b6_0'
  refine oG X6 H r21_17_18 19 (lA14_ o0 o1 b1 b6_0) [(.ref b6_0)] ?_
  refine ocF X6 H (wb22_ hw) (rm24_56 hw Z0 F_this_0_b6_0 F_cursor_b6_0 (F_size_o3.keep K0 nin0) hp0) (rfl : T6.heap = _) 0 b6_0 E_b6_0 [] [] pd_19 d21_19 fun T8 _ _ X8 hQ8 => ?_
  obtain ⟨rfl, N8, e8⟩ := hQ8
  replace N0 := Fr.app N0 N8
  refine oIN X8 H oD0 d21_24 (lA14_ o0 o1 b1 b6_0) [] rfl ((if0 _ _).trans (feq (by decide : ¬ ((1 : Int32) = (0 : Int32)))).1) ?_
  refine oH X8 H r21_27_27 28 [(.ref b6_0)] ?_
  refine ocF X8 H (wb32_ hw) (rm25_77 hw Z0 g_b6_0 E_b6_0 F_this_0_b6_0 F_lastRet_b6_0 F_expectedModCount_b6_0 F_cursor_b6_0 (F_modCount_o3.keep K0 nin0) (F_elementData_o3.keep K0 nin0) (F_size_o3.keep K0 nin0) (V_o4.keep K0 nin0) (oNl F_modCount_o3.lt sz_b6_0) hp1) e8 0 b6_0 E_b6_0 [] [] pd_20 d21_28 fun T10 _ _ X10 hQ10 => ?_
  obtain ⟨rfl, N10, K10, E_b6_0', F_this_0_b6_0', F_lastRet_b6_0', F_expectedModCount_b6_0', F_cursor_b6_0'⟩ := hQ10
  replace N0 := Fr.app N0 N10
  replace E_b1 := E_b1.keep K10
  replace F_modCount_b1 := F_modCount_b1.keep K10 (ninS ne_b1_b6_0 nin0)
  replace F_elementData_b1 := F_elementData_b1.keep K10 (ninS ne_b1_b6_0 nin0)
  replace F_size_b1 := F_size_b1.keep K10 (ninS ne_b1_b6_0 nin0)
  replace OZ := OZ.keep K10 (allS g_b6_0 all0)
  replace K0 := K0.trans K10 (allS (Or.inr sz_b6_0) all0)
  replace Z0 := Nat.le_trans Z0 K10.1
  replace E_b6_0 := E_b6_0'
  have F_this_0_b6_0 := F_this_0_b6_0'
  have F_lastRet_b6_0 := F_lastRet_b6_0'
  have F_expectedModCount_b6_0 := F_expectedModCount_b6_0'
  have F_cursor_b6_0 := F_cursor_b6_0'
  refine oKst X10 H (hV hw 187) rfl (Ins.self (E_o5.keep K0)) d21_33 fun T11 X11 e11 => ?_
  refine oG X11 H r21_36_38 40 (lA15_ o0 o1 b1 b6_0 o5) [(.ref o5)] ?_
  refine ocV X11 H (wb33_ hw) (rm27_59 hw Z0 (F_name_o5.keep K0 nin0)) e11 0 o5 (E_o5.keep K0) [] [] pd_21 d21_40 fun T13 _ _ X13 hQ13 => ?_
  obtain ⟨rfl, N13, e13⟩ := hQ13
  replace N0 := Fr.app N0 N13
  refine oG X13 H r21_43_43 44 (lA15_ o0 o1 b1 b6_0 o5) [(.ref o1), (.ref o8)] ?_
  refine ocV X13 H (wb34_ hw) (rm28_ne hw Z0 OZ S_COMPACT_STRINGS hp3 (T_o8.keep K0) (T_o1.keep K0) ne_o8_o1 hp2) e13 0 o8 (own_Str.exa (T_o8.keep K0)) [(.ref o1)] [] pd_10 d21_44 fun T15 _ _ X15 hQ15 => ?_
  obtain ⟨rfl, N15, e15⟩ := hQ15
  replace N0 := Fr.app N0 N15
  refine oIY X15 H oD0 d21_47 62 (lA15_ o0 o1 b1 b6_0 o5) [] rfl ((if0 _ _).trans (teq (by decide : (0 : Int32) = (0 : Int32))).1) ?_
  refine oH X15 H r21_62_18 19 [(.ref b6_0)] ?_
  refine ocF X15 H (wb22_ hw) (rm24_56 hw Z0 F_this_0_b6_0 F_cursor_b6_0 (F_size_o3.keep K0 nin0) hp4) e15 0 b6_0 E_b6_0 [] [] pd_19 d21_19 fun T17 _ _ X17 hQ17 => ?_
  obtain ⟨rfl, N17, e17⟩ := hQ17
  replace N0 := Fr.app N0 N17
  refine oIN X17 H oD0 d21_24 (lA15_ o0 o1 b1 b6_0 o5) [] rfl ((if0 _ _).trans (feq (by decide : ¬ ((1 : Int32) = (0 : Int32)))).1) ?_
  refine oH X17 H r21_27_27 28 [(.ref b6_0)] ?_
  refine ocF X17 H (wb32_ hw) (rm25_78 hw Z0 g_b6_0 E_b6_0 F_this_0_b6_0 F_lastRet_b6_0 F_expectedModCount_b6_0 F_cursor_b6_0 (F_modCount_o3.keep K0 nin0) (F_elementData_o3.keep K0 nin0) (F_size_o3.keep K0 nin0) (V_o4.keep K0 nin0) (oNl F_modCount_o3.lt sz_b6_0) hp5) e17 0 b6_0 E_b6_0 [] [] pd_20 d21_28 fun T19 _ _ X19 hQ19 => ?_
  obtain ⟨rfl, N19, K19, E_b6_0', F_this_0_b6_0', F_lastRet_b6_0', F_expectedModCount_b6_0', F_cursor_b6_0'⟩ := hQ19
  replace N0 := Fr.app N0 N19
  replace E_b1 := E_b1.keep K19
  replace F_modCount_b1 := F_modCount_b1.keep K19 (ninS ne_b1_b6_0 nin0)
  replace F_elementData_b1 := F_elementData_b1.keep K19 (ninS ne_b1_b6_0 nin0)
  replace F_size_b1 := F_size_b1.keep K19 (ninS ne_b1_b6_0 nin0)
  replace OZ := OZ.keep K19 (allS g_b6_0 all0)
  replace K0 := K0.trans K19 (allS (Or.inr sz_b6_0) all0)
  replace Z0 := Nat.le_trans Z0 K19.1
  replace E_b6_0 := E_b6_0'
  have F_this_0_b6_0 := F_this_0_b6_0'
  have F_lastRet_b6_0 := F_lastRet_b6_0'
  have F_expectedModCount_b6_0 := F_expectedModCount_b6_0'
  have F_cursor_b6_0 := F_cursor_b6_0'
  refine oKst X19 H (hV hw 187) rfl (Ins.self (E_o6.keep K0)) d21_33 fun T20 X20 e20 => ?_
  refine oG X20 H r21_36_38 40 (lA15_ o0 o1 b1 b6_0 o6) [(.ref o6)] ?_
  refine ocV X20 H (wb33_ hw) (rm27_59 hw Z0 (F_name_o6.keep K0 nin0)) e20 0 o6 (E_o6.keep K0) [] [] pd_21 d21_40 fun T22 _ _ X22 hQ22 => ?_
  obtain ⟨rfl, N22, e22⟩ := hQ22
  replace N0 := Fr.app N0 N22
  refine oG X22 H r21_43_43 44 (lA15_ o0 o1 b1 b6_0 o6) [(.ref o1), (.ref o10)] ?_
  refine ocV X22 H (wb34_ hw) (rm28_ne hw Z0 OZ S_COMPACT_STRINGS hp3 (T_o10.keep K0) (T_o1.keep K0) ne_o10_o1 hp6) e22 0 o10 (own_Str.exa (T_o10.keep K0)) [(.ref o1)] [] pd_10 d21_44 fun T24 _ _ X24 hQ24 => ?_
  obtain ⟨rfl, N24, e24⟩ := hQ24
  replace N0 := Fr.app N0 N24
  refine oIY X24 H oD0 d21_47 62 (lA15_ o0 o1 b1 b6_0 o6) [] rfl ((if0 _ _).trans (teq (by decide : (0 : Int32) = (0 : Int32))).1) ?_
  refine oH X24 H r21_62_18 19 [(.ref b6_0)] ?_
  refine ocF X24 H (wb22_ hw) (rm24_56 hw Z0 F_this_0_b6_0 F_cursor_b6_0 (F_size_o3.keep K0 nin0) hp7) e24 0 b6_0 E_b6_0 [] [] pd_19 d21_19 fun T26 _ _ X26 hQ26 => ?_
  obtain ⟨rfl, N26, e26⟩ := hQ26
  replace N0 := Fr.app N0 N26
  refine oIN X26 H oD0 d21_24 (lA15_ o0 o1 b1 b6_0 o6) [] rfl ((if0 _ _).trans (feq (by decide : ¬ ((1 : Int32) = (0 : Int32)))).1) ?_
  refine oH X26 H r21_27_27 28 [(.ref b6_0)] ?_
  refine ocF X26 H (wb32_ hw) (rm25_79 hw Z0 g_b6_0 E_b6_0 F_this_0_b6_0 F_lastRet_b6_0 F_expectedModCount_b6_0 F_cursor_b6_0 (F_modCount_o3.keep K0 nin0) (F_elementData_o3.keep K0 nin0) (F_size_o3.keep K0 nin0) (V_o4.keep K0 nin0) (oNl F_modCount_o3.lt sz_b6_0) hp8) e26 0 b6_0 E_b6_0 [] [] pd_20 d21_28 fun T28 _ _ X28 hQ28 => ?_
  obtain ⟨rfl, N28, K28, E_b6_0', F_this_0_b6_0', _, _, F_cursor_b6_0'⟩ := hQ28
  replace N0 := Fr.app N0 N28
  replace E_b1 := E_b1.keep K28
  replace F_modCount_b1 := F_modCount_b1.keep K28 (ninS ne_b1_b6_0 nin0)
  replace F_elementData_b1 := F_elementData_b1.keep K28 (ninS ne_b1_b6_0 nin0)
  replace F_size_b1 := F_size_b1.keep K28 (ninS ne_b1_b6_0 nin0)
  replace OZ := OZ.keep K28 (allS g_b6_0 all0)
  replace K0 := K0.trans K28 (allS (Or.inr sz_b6_0) all0)
  replace Z0 := Nat.le_trans Z0 K28.1
  replace E_b6_0 := E_b6_0'
  have F_this_0_b6_0 := F_this_0_b6_0'
  have F_cursor_b6_0 := F_cursor_b6_0'
  refine oKst X28 H (hV hw 187) rfl (Ins.self (E_o7.keep K0)) d21_33 fun T29 X29 e29 => ?_
  refine oG X29 H r21_36_38 40 (lA15_ o0 o1 b1 b6_0 o7) [(.ref o7)] ?_
  refine ocV X29 H (wb33_ hw) (rm27_59 hw Z0 (F_name_o7.keep K0 nin0)) e29 0 o7 (E_o7.keep K0) [] [] pd_21 d21_40 fun T31 _ _ X31 hQ31 => ?_
  obtain ⟨rfl, N31, e31⟩ := hQ31
  replace N0 := Fr.app N0 N31
  refine oG X31 H r21_43_43 44 (lA15_ o0 o1 b1 b6_0 o7) [(.ref o1), (.ref o12)] ?_
  refine ocV X31 H (wb34_ hw) (rm28_ne hw Z0 OZ S_COMPACT_STRINGS hp3 (T_o12.keep K0) (T_o1.keep K0) ne_o12_o1 hp9) e31 0 o12 (own_Str.exa (T_o12.keep K0)) [(.ref o1)] [] pd_10 d21_44 fun T33 _ _ X33 hQ33 => ?_
  obtain ⟨rfl, N33, e33⟩ := hQ33
  replace N0 := Fr.app N0 N33
  refine oIY X33 H oD0 d21_47 62 (lA15_ o0 o1 b1 b6_0 o7) [] rfl ((if0 _ _).trans (teq (by decide : (0 : Int32) = (0 : Int32))).1) ?_
  refine oH X33 H r21_62_18 19 [(.ref b6_0)] ?_
  refine ocF X33 H (wb22_ hw) (rm24_48 hw Z0 F_this_0_b6_0 F_cursor_b6_0 (F_size_o3.keep K0 nin0) hp10) e33 0 b6_0 E_b6_0 [] [] pd_19 d21_19 fun T35 _ _ X35 hQ35 => ?_
  obtain ⟨rfl, N35, e35⟩ := hQ35
  replace N0 := Fr.app N0 N35
  refine oIY X35 H oD0 d21_24 65 (lA15_ o0 o1 b1 b6_0 o7) [] rfl ((if0 _ _).trans (teq (by decide : (0 : Int32) = (0 : Int32))).1) ?_
  refine oH X35 H r21_65_65 66 [(.ref b1)] ?_
  exact own_retR X35 Blk hx Bret rfl rfl rfl (hb hby d21_66) (by
      try rw [show T35.heap = T28.heap from e35]
      exact ⟨b1, rfl, N0, K0, E_b1, F_modCount_b1, F_elementData_b1, F_size_b1, sz_b1⟩) dE_ dE_

theorem r0_69_69 : oDec code [(69, .dup, 1)] := by decide +kernel
theorem r0_73_75 : oDec code [(73, .astore 14, 2), (75, .iload 6, 2)] := by decide +kernel
theorem r0_99_101 : oDec code [(99, .iload 6, 2), (101, .iconst 1, 1)] := by decide +kernel
theorem r0_124_126 : oDec code [(124, .iload 6, 2), (126, .iconst 2, 1)] := by decide +kernel
theorem r0_152_153 : oDec code [(152, .dup, 1), (153, .aload 14, 2)] := by decide +kernel
theorem r0_158_158 : oDec code [(158, .aload 7, 2)] := by decide +kernel
theorem r0_163_163 : oDec code [(163, .astore 15, 2)] := by decide +kernel
theorem r0_168_168 : oDec code [(168, .dup, 1)] := by decide +kernel
theorem r0_172_174 : oDec code [(172, .astore 16, 2), (174, .iload 6, 2)] := by decide +kernel
theorem r0_197_199 : oDec code [(197, .iload 6, 2), (199, .iconst 1, 1)] := by decide +kernel
theorem r0_221_223 : oDec code [(221, .iload 6, 2), (223, .iconst 2, 1)] := by decide +kernel
theorem r0_80_80 : oDec code [(80, .aload 14, 2)] := by decide +kernel
theorem r0_85_88 : oDec code [(85, .dup, 1), (86, .aload 8, 2), (88, .aload 11, 2)] := by decide +kernel
theorem r0_179_181 : oDec code [(179, .aload 7, 2), (181, .aload 8, 2)] := by decide +kernel
theorem r0_189_191 : oDec code [(189, .aload 16, 2), (191, .aload 11, 2)] := by decide +kernel
theorem r0_105_105 : oDec code [(105, .aload 14, 2)] := by decide +kernel
theorem r0_110_113 : oDec code [(110, .dup, 1), (111, .aload 9, 2), (113, .aload 12, 2)] := by decide +kernel
theorem r0_203_205 : oDec code [(203, .aload 7, 2), (205, .aload 9, 2)] := by decide +kernel
theorem r0_213_215 : oDec code [(213, .aload 16, 2), (215, .aload 12, 2)] := by decide +kernel
theorem r0_130_130 : oDec code [(130, .aload 14, 2)] := by decide +kernel
theorem r0_135_138 : oDec code [(135, .dup, 1), (136, .aload 10, 2), (138, .aload 13, 2)] := by decide +kernel
theorem r0_227_229 : oDec code [(227, .aload 7, 2), (229, .aload 10, 2)] := by decide +kernel
theorem r0_237_239 : oDec code [(237, .aload 16, 2), (239, .aload 13, 2)] := by decide +kernel
theorem pd_15 : parseMethodDescriptor "(Ljava/util/List;)V" = some ⟨[(.object "java/util/List")], none⟩ := by decide +kernel
theorem pd_16 : parseMethodDescriptor "(Ljava/lang/String;)Ljava/util/List;" = some ⟨[(.object "java/lang/String")], some (.object "java/util/List")⟩ := by decide +kernel
theorem pd_9 : parseMethodDescriptor "(Ljava/lang/String;Ljava/lang/Object;)V" = some ⟨[(.object "java/lang/String"), (.object "java/lang/Object")], none⟩ := by decide +kernel
set_option maxRecDepth 65536 in
set_option maxHeartbeats 40000000 in
theorem own_tail {p : Program} {l : Launch} {e : Env} {s : State} {m : MethodId} {args : Array Value} {below : List Frame} {meth : Method} {c : Code} {s₁ : State} {locs : List Loc} {Z : State} {a0 : Array Value} {h0 h1 : Heap} {n0 : Nat} {vm1 : Vm} {kS : Nat} (p0 p1 : Int32) (p2 p3 : Int32) (p4 p5 nn : Int32) (xq x1 : Addr) (x2 x3 : Addr) (w0 w1 : Addr) (w2 em : Addr) (ke : ClassId) (vq : List Value) (v1 : List Value) (v2 : List Value) (v3 : List Value) (cs : Int32) (hnn : nn = (0 : Int32) ∨ nn = (1 : Int32) ∨ nn = (2 : Int32) ∨ nn = (3 : Int32))
    (X0 : Stand p l e room_1 (s.setVm vm1) m args below meth c s₁ locs 16 40) (hx : p.tables.exec = Jvm.exec) (hZ : Z.Warmed39 (s.setVm vm1).vm) (hw : oW_ a0 Z) (hby : c.code = code) (hml : c.maxLocals = 18) (hown : (s.setVm vm1).vm.findClass c10_ = some m.cls) (hSi : s.Since vm1 kS) (Bret : meth.sig.returnType = some .boolean) (Blk : meth.locks = false) (e0 : s₁.heap = h1) (N0 : Fr n0 locs) (Z0 : n0 ≤ h1.size) (K0 : Keep h0 h1 []) (OZ : Old Z n0 h1) (S_DEFAULTCAPACITY_EMPTY_ELEMENTDATA : Sta Z Z.heap c0_ c15_ c3_ (.ref em)) (S_COMPACT_STRINGS : Sta Z Z.heap c2_ c13_ "Z" (.int cs)) (hcs : ¬ (cs = (0 : Int32))) (V_em : Arv Z h0 em ke (.object c1_) (0 : Int32) [] .null) (E_w0 : Exa Z h0 w0 c8_) (E_w1 : Exa Z h0 w1 c8_) (E_w2 : Exa Z h0 w2 c8_) (T_xq : own_Str Z h0 xq vq) (T_x1 : own_Str Z h0 x1 v1) (T_x2 : own_Str Z h0 x2 v2) (T_x3 : own_Str Z h0 x3 v3) (ne_xq_x1 : xq ≠ x1) (ne_xq_x2 : xq ≠ x2) (ne_xq_x3 : xq ≠ x3) (hk : kS ≤ h1.size) :
    own_Go p e below (own_PostW s (fun v h L => v = some (.int (1 : Int32)) ∧ Fr n0 L) room_1.cells room_1.slots) (s₁.setTop (mkF m 66 (lA16_ p0 p1 p2 p3 p4 p5 nn xq x1 x2 x3 w0 w1 w2) [])) := by
  have H : oH_ p _ m c Z _ _ _ := ⟨hx, hZ, hown, hml, hby⟩
  show own_Go p e below _ (s₁.setTop (mkF m 66 (lA16_ p0 p1 p2 p3 p4 p5 nn xq x1 x2 x3 w0 w1 w2) []))
  rcases hnn with hk3 | hk3 | hk3 | hk3
  · subst hk3
    show own_Go p e below _ (s₁.setTop (mkF m 66 (lA16_ p0 p1 p2 p3 p4 p5 (0 : Int32) xq x1 x2 x3 w0 w1 w2) []))
    refine oNw X0 H (hV hw 47) (hV hw 48) (hV hw 49) e0 at_66 fun T2 h2 b2 X2 e2 E2 u2 E_b2 D2 => ?_
    have g_b2 := Nat.le_trans Z0 u2
    have sz_b2 := Nat.le_trans K0.1 u2
    replace hk := Nat.le_trans hk E2.1
    replace OZ := OZ.ext E2
    replace K0 := K0.ext E2
    replace Z0 := Nat.le_trans Z0 E2.1
    have F_modCount_b2 : Fld Z h2 b2 c4_ "modCount" "I" oZ := D2 (Or.inl (hV hw 67)) (ty := .int) dE_
    have F_elementData_b2 : Fld Z h2 b2 c0_ "elementData" c3_ .null := D2 (Or.inl (hV hw 70)) (ty := (.array (.object c1_))) dE_
    have F_size_b2 : Fld Z h2 b2 c0_ "size" "I" oZ := D2 (Or.inl (hV hw 99)) (ty := .int) dE_
    refine oG X2 H r0_69_69 70 (lA16_ p0 p1 p2 p3 p4 p5 (0 : Int32) xq x1 x2 x3 w0 w1 w2) [(.ref b2), (.ref b2)] ?_
    refine ocI X2 H (wb16_ hw) (rm10_43 hw Z0 g_b2 E_b2 F_modCount_b2 F_elementData_b2 F_size_b2 S_DEFAULTCAPACITY_EMPTY_ELEMENTDATA OZ) e2 1 b2 [] [(.ref b2)] pd_3 at_70 fun T4 _ _ X4 hQ4 => ?_
    obtain ⟨rfl, N4, K4, E_b2', F_modCount_b2', _, F_size_b2'⟩ := hQ4
    replace N0 := Fr.app N0 N4
    replace hk := Nat.le_trans hk K4.1
    replace OZ := OZ.keep K4 (allS g_b2 all0)
    replace K0 := K0.trans K4 (allS (Or.inr sz_b2) all0)
    replace Z0 := Nat.le_trans Z0 K4.1
    replace E_b2 := E_b2'
    have F_modCount_b2 := F_modCount_b2'
    have F_size_b2 := F_size_b2'
    refine oIY X4 H r0_73_75 at_77 99 (lA17_ p0 p1 p2 p3 p4 p5 (0 : Int32) xq x1 x2 x3 w0 w1 w2 b2) [] rfl ((if0 _ _).trans (flt (by decide : ¬ ((0 : Int32) < (0 : Int32)))).2.2.2) ?_
    refine oCY X4 H r0_99_101 at_102 124 (lA17_ p0 p1 p2 p3 p4 p5 (0 : Int32) xq x1 x2 x3 w0 w1 w2 b2) [] rfl (flt (by decide : ¬ ((1 : Int32) < (0 : Int32)))).2.2.2 ?_
    refine oCY X4 H r0_124_126 at_127 149 (lA17_ p0 p1 p2 p3 p4 p5 (0 : Int32) xq x1 x2 x3 w0 w1 w2 b2) [] rfl (flt (by decide : ¬ ((2 : Int32) < (0 : Int32)))).2.2.2 ?_
    refine oNw X4 H (hV hw 122) (hV hw 123) (hV hw 124) rfl at_149 fun T5 h5 b5 X5 e5 E5 u5 E_b5 D5 => ?_
    have g_b5 := Nat.le_trans Z0 u5
    have sz_b5 := Nat.le_trans K0.1 u5
    have ne_b2_b5 := oNl E_b2.lt u5
    replace hk := Nat.le_trans hk E5.1
    replace E_b2 := E_b2.ext E5
    replace F_modCount_b2 := F_modCount_b2.ext E5
    replace F_size_b2 := F_size_b2.ext E5
    replace OZ := OZ.ext E5
    replace K0 := K0.ext E5
    replace Z0 := Nat.le_trans Z0 E5.1
    have F_members_b5 : Fld Z h5 b5 c7_ "members" c19_ .null := D5 (Or.inr (hV hw 130)) (ty := (.object c12_)) dE_
    refine oG X5 H r0_152_153 155 (lA17_ p0 p1 p2 p3 p4 p5 (0 : Int32) xq x1 x2 x3 w0 w1 w2 b2) [(.ref b2), (.ref b5), (.ref b5)] ?_
    refine ocI X5 H (wb18_ hw) (rm20_45 hw Z0 g_b5 E_b5 F_members_b5) e5 1 b5 [(.ref b2)] [(.ref b5)] pd_15 at_155 fun T7 _ _ X7 hQ7 => ?_
    obtain ⟨rfl, N7, K7, E_b5', F_members_b5'⟩ := hQ7
    replace N0 := Fr.app N0 N7
    replace hk := Nat.le_trans hk K7.1
    replace E_b2 := E_b2.keep K7
    replace F_modCount_b2 := F_modCount_b2.keep K7 (ninS ne_b2_b5 nin0)
    replace F_size_b2 := F_size_b2.keep K7 (ninS ne_b2_b5 nin0)
    replace OZ := OZ.keep K7 (allS g_b5 all0)
    replace K0 := K0.trans K7 (allS (Or.inr sz_b5) all0)
    replace Z0 := Nat.le_trans Z0 K7.1
    replace E_b5 := E_b5'
    have F_members_b5 := F_members_b5'
    refine oG X7 H r0_158_158 160 (lA17_ p0 p1 p2 p3 p4 p5 (0 : Int32) xq x1 x2 x3 w0 w1 w2 b2) [(.ref xq), (.ref b5)] ?_
    refine ocV X7 H (wb23_ hw) (rm21_49 hw Z0 F_members_b5 E_b2 F_modCount_b2 F_size_b2 S_DEFAULTCAPACITY_EMPTY_ELEMENTDATA OZ (by decide : (0 : Int32) = (0 : Int32))) (rfl : T7.heap = _) 0 b5 E_b5 [(.ref xq)] [] pd_16 at_160 fun T9 _ _ X9 hQ9 => ?_
    obtain ⟨b9_0, rfl, N9, K9, E_b9_0', _, F_elementData_b9_0', F_size_b9_0', _⟩ := hQ9
    replace N0 := Fr.app N0 N9
    replace hk := Nat.le_trans hk K9.1
    replace OZ := OZ.keep K9 all0
    replace K0 := K0.trans K9 all0
    replace Z0 := Nat.le_trans Z0 K9.1
    have E_b9_0 := E_b9_0'
    have F_elementData_b9_0 := F_elementData_b9_0'
    have F_size_b9_0 := F_size_b9_0'
    refine oG X9 H r0_163_163 165 (lA18_ p0 p1 p2 p3 p4 p5 (0 : Int32) xq x1 x2 x3 w0 w1 w2 b2 b9_0) [] ?_
    refine oNw X9 H (hV hw 47) (hV hw 48) (hV hw 49) rfl at_165 fun T10 h10 b10 X10 e10 E10 u10 E_b10 D10 => ?_
    have g_b10 := Nat.le_trans Z0 u10
    have sz_b10 := Nat.le_trans K0.1 u10
    have ne_b9_0_b10 := oNl E_b9_0.lt u10
    replace hk := Nat.le_trans hk E10.1
    replace E_b9_0 := E_b9_0.ext E10
    replace F_elementData_b9_0 := F_elementData_b9_0.ext E10
    replace F_size_b9_0 := F_size_b9_0.ext E10
    replace OZ := OZ.ext E10
    replace K0 := K0.ext E10
    replace Z0 := Nat.le_trans Z0 E10.1
    have F_modCount_b10 : Fld Z h10 b10 c4_ "modCount" "I" oZ := D10 (Or.inl (hV hw 67)) (ty := .int) dE_
    have F_elementData_b10 : Fld Z h10 b10 c0_ "elementData" c3_ .null := D10 (Or.inl (hV hw 70)) (ty := (.array (.object c1_))) dE_
    have F_size_b10 : Fld Z h10 b10 c0_ "size" "I" oZ := D10 (Or.inl (hV hw 99)) (ty := .int) dE_
    refine oG X10 H r0_168_168 169 (lA18_ p0 p1 p2 p3 p4 p5 (0 : Int32) xq x1 x2 x3 w0 w1 w2 b2 b9_0) [(.ref b10), (.ref b10)] ?_
    refine ocI X10 H (wb16_ hw) (rm10_43 hw Z0 g_b10 E_b10 F_modCount_b10 F_elementData_b10 F_size_b10 S_DEFAULTCAPACITY_EMPTY_ELEMENTDATA OZ) e10 1 b10 [] [(.ref b10)] pd_3 at_169 fun T12 _ _ X12 hQ12 => ?_
    obtain ⟨rfl, N12, K12, E_b10', _, F_elementData_b10', F_size_b10'⟩ := hQ12
    replace N0 := Fr.app N0 N12
    replace hk := Nat.le_trans hk K12.1
    replace E_b9_0 := E_b9_0.keep K12
    replace F_elementData_b9_0 := F_elementData_b9_0.keep K12 (ninS ne_b9_0_b10 nin0)
    replace F_size_b9_0 := F_size_b9_0.keep K12 (ninS ne_b9_0_b10 nin0)
    replace K0 := K0.trans K12 (allS (Or.inr sz_b10) all0)
    replace Z0 := Nat.le_trans Z0 K12.1
    replace E_b10 := E_b10'
    have F_elementData_b10 := F_elementData_b10'
    have F_size_b10 := F_size_b10'
    refine oIY X12 H r0_172_174 at_176 197 (lA10_ p0 p1 p2 p3 p4 p5 (0 : Int32) xq x1 x2 x3 w0 w1 w2 b2 b9_0 b10) [] rfl ((if0 _ _).trans (flt (by decide : ¬ ((0 : Int32) < (0 : Int32)))).2.2.2) ?_
    refine oCY X12 H r0_197_199 at_200 221 (lA10_ p0 p1 p2 p3 p4 p5 (0 : Int32) xq x1 x2 x3 w0 w1 w2 b2 b9_0 b10) [] rfl (flt (by decide : ¬ ((1 : Int32) < (0 : Int32)))).2.2.2 ?_
    refine oCY X12 H r0_221_223 at_224 245 (lA10_ p0 p1 p2 p3 p4 p5 (0 : Int32) xq x1 x2 x3 w0 w1 w2 b2 b9_0 b10) [] rfl (flt (by decide : ¬ ((2 : Int32) < (0 : Int32)))).2.2.2 ?_
    exact own_D0 (h0 := h0) p0 p1 p2 p3 p4 p5 (0 : Int32) xq x1 x2 x3 w0 w1 w2 b2 b9_0 b10 em ke (X12.mono (cells' := 50) (slots' := 1000) dE_ dE_) hx hZ hw hby hml hown hSi Bret Blk (rfl : T12.heap = _) N0 Z0 E_b9_0 F_elementData_b9_0 F_size_b9_0 E_b10 F_elementData_b10 F_size_b10 (V_em.keep K0 nin0) hk
  · subst hk3
    show own_Go p e below _ (s₁.setTop (mkF m 66 (lA16_ p0 p1 p2 p3 p4 p5 (1 : Int32) xq x1 x2 x3 w0 w1 w2) []))
    refine oNw X0 H (hV hw 47) (hV hw 48) (hV hw 49) e0 at_66 fun T13 h13 b13 X13 e13 E13 u13 E_b13 D13 => ?_
    have g_b13 := Nat.le_trans Z0 u13
    have sz_b13 := Nat.le_trans K0.1 u13
    replace hk := Nat.le_trans hk E13.1
    replace OZ := OZ.ext E13
    replace K0 := K0.ext E13
    replace Z0 := Nat.le_trans Z0 E13.1
    have F_modCount_b13 : Fld Z h13 b13 c4_ "modCount" "I" oZ := D13 (Or.inl (hV hw 67)) (ty := .int) dE_
    have F_elementData_b13 : Fld Z h13 b13 c0_ "elementData" c3_ .null := D13 (Or.inl (hV hw 70)) (ty := (.array (.object c1_))) dE_
    have F_size_b13 : Fld Z h13 b13 c0_ "size" "I" oZ := D13 (Or.inl (hV hw 99)) (ty := .int) dE_
    refine oG X13 H r0_69_69 70 (lA16_ p0 p1 p2 p3 p4 p5 (1 : Int32) xq x1 x2 x3 w0 w1 w2) [(.ref b13), (.ref b13)] ?_
    refine ocI X13 H (wb16_ hw) (rm10_43 hw Z0 g_b13 E_b13 F_modCount_b13 F_elementData_b13 F_size_b13 S_DEFAULTCAPACITY_EMPTY_ELEMENTDATA OZ) e13 1 b13 [] [(.ref b13)] pd_3 at_70 fun T15 _ _ X15 hQ15 => ?_
    obtain ⟨rfl, N15, K15, E_b13', F_modCount_b13', F_elementData_b13', F_size_b13'⟩ := hQ15
    replace N0 := Fr.app N0 N15
    replace hk := Nat.le_trans hk K15.1
    replace OZ := OZ.keep K15 (allS g_b13 all0)
    replace K0 := K0.trans K15 (allS (Or.inr sz_b13) all0)
    replace Z0 := Nat.le_trans Z0 K15.1
    replace E_b13 := E_b13'
    have F_modCount_b13 := F_modCount_b13'
    have F_elementData_b13 := F_elementData_b13'
    have F_size_b13 := F_size_b13'
    refine oIN X15 H r0_73_75 at_77 (lA17_ p0 p1 p2 p3 p4 p5 (1 : Int32) xq x1 x2 x3 w0 w1 w2 b13) [] rfl ((if0 _ _).trans (tlt (by decide : (0 : Int32) < (1 : Int32))).2.2.2) ?_
    refine oH X15 H r0_80_80 82 [(.ref b13)] ?_
    refine oNw X15 H (hV hw 71) (hV hw 72) (hV hw 73) rfl at_82 fun T16 h16 b16 X16 e16 E16 u16 E_b16 D16 => ?_
    have g_b16 := Nat.le_trans Z0 u16
    have sz_b16 := Nat.le_trans K0.1 u16
    have ne_b13_b16 := oNl E_b13.lt u16
    replace hk := Nat.le_trans hk E16.1
    replace E_b13 := E_b13.ext E16
    replace F_modCount_b13 := F_modCount_b13.ext E16
    replace F_elementData_b13 := F_elementData_b13.ext E16
    replace F_size_b13 := F_size_b13.ext E16
    replace OZ := OZ.ext E16
    replace K0 := K0.ext E16
    replace Z0 := Nat.le_trans Z0 E16.1
    have F_name_b16 : Fld Z h16 b16 c6_ "name" c9_ .null := D16 (Or.inr (hV hw 84)) (ty := (.object c2_)) dE_
    have F_value_b16 : Fld Z h16 b16 c6_ "value" c11_ .null := D16 (Or.inr (hV hw 86)) (ty := (.object c1_)) dE_
    refine oG X16 H r0_85_88 90 (lA17_ p0 p1 p2 p3 p4 p5 (1 : Int32) xq x1 x2 x3 w0 w1 w2 b13) [(.ref w0), (.ref x1), (.ref b16), (.ref b16), (.ref b13)] ?_
    refine ocI X16 H (wb25_ hw) (rm13_50 hw Z0 g_b16 E_b16 F_name_b16 F_value_b16) e16 2 b16 [(.ref x1), (.ref w0)] [(.ref b16), (.ref b13)] pd_9 at_90 fun T18 _ _ X18 hQ18 => ?_
    obtain ⟨rfl, N18, K18, E_b16', F_name_b16', F_value_b16'⟩ := hQ18
    replace N0 := Fr.app N0 N18
    replace hk := Nat.le_trans hk K18.1
    replace E_b13 := E_b13.keep K18
    replace F_modCount_b13 := F_modCount_b13.keep K18 (ninS ne_b13_b16 nin0)
    replace F_elementData_b13 := F_elementData_b13.keep K18 (ninS ne_b13_b16 nin0)
    replace F_size_b13 := F_size_b13.keep K18 (ninS ne_b13_b16 nin0)
    replace OZ := OZ.keep K18 (allS g_b16 all0)
    replace K0 := K0.trans K18 (allS (Or.inr sz_b16) all0)
    replace Z0 := Nat.le_trans Z0 K18.1
    replace E_b16 := E_b16'
    have F_name_b16 := F_name_b16'
    have F_value_b16 := F_value_b16'
    refine ocF X18 H (wb30_ hw) (rm15_55 hw Z0 g_b13 E_b13 F_modCount_b13 F_elementData_b13 F_size_b13 E_b16 (V_em.keep K0 nin0) S_DEFAULTCAPACITY_EMPTY_ELEMENTDATA OZ) (rfl : T18.heap = _) 0 b13 E_b13 [(.ref b16)] [] pd_10 at_93 fun T20 _ _ X20 hQ20 => ?_
    obtain ⟨_, _, rfl, N20, K20, E_b13', F_modCount_b13', F_elementData_b13', F_size_b13', V_b20_0', _⟩ := hQ20
    replace N0 := Fr.app N0 N20
    replace hk := Nat.le_trans hk K20.1
    replace E_b16 := E_b16.keep K20
    replace F_name_b16 := F_name_b16.keep K20 (ninS (Ne.symm ne_b13_b16) nin0)
    replace F_value_b16 := F_value_b16.keep K20 (ninS (Ne.symm ne_b13_b16) nin0)
    replace OZ := OZ.keep K20 (allS g_b13 all0)
    replace K0 := K0.trans K20 (allS (Or.inr sz_b13) all0)
    replace Z0 := Nat.le_trans Z0 K20.1
    replace E_b13 := E_b13'
    have F_modCount_b13 : Fld Z T20.heap b13 c4_ "modCount" "I" (.int (1 : Int32)) := F_modCount_b13'
    have F_elementData_b13 := F_elementData_b13'
    have F_size_b13 := F_size_b13'
    have V_b20_0 := V_b20_0'
    refine oB_ (tF_ T20 (mkF m 99 (lA17_ p0 p1 p2 p3 p4 p5 (1 : Int32) xq x1 x2 x3 w0 w1 w2 b13) [])) (fun t k => ?_) ?_
    · refine XS.pop X20.here hx rfl (hb hby at_98) rfl rfl ?_
      exact k
    refine oCY X20 H r0_99_101 at_102 124 (lA17_ p0 p1 p2 p3 p4 p5 (1 : Int32) xq x1 x2 x3 w0 w1 w2 b13) [] rfl (flt (by decide : ¬ ((1 : Int32) < (1 : Int32)))).2.2.2 ?_
    refine oCY X20 H r0_124_126 at_127 149 (lA17_ p0 p1 p2 p3 p4 p5 (1 : Int32) xq x1 x2 x3 w0 w1 w2 b13) [] rfl (flt (by decide : ¬ ((2 : Int32) < (1 : Int32)))).2.2.2 ?_
    refine oNw X20 H (hV hw 122) (hV hw 123) (hV hw 124) rfl at_149 fun T21 h21 b21 X21 e21 E21 u21 E_b21 D21 => ?_
    have g_b21 := Nat.le_trans Z0 u21
    have sz_b21 := Nat.le_trans K0.1 u21
    have ne_b13_b21 := oNl E_b13.lt u21
    have ne_b16_b21 := oNl E_b16.lt u21
    have ne_b20_0_b21 := oNl V_b20_0.lt u21
    replace hk := Nat.le_trans hk E21.1
    replace E_b13 := E_b13.ext E21
    replace E_b16 := E_b16.ext E21
    replace F_name_b16 := F_name_b16.ext E21
    replace F_value_b16 := F_value_b16.ext E21
    replace F_modCount_b13 := F_modCount_b13.ext E21
    replace F_elementData_b13 := F_elementData_b13.ext E21
    replace F_size_b13 := F_size_b13.ext E21
    replace V_b20_0 := V_b20_0.ext E21
    replace OZ := OZ.ext E21
    replace K0 := K0.ext E21
    replace Z0 := Nat.le_trans Z0 E21.1
    have F_members_b21 : Fld Z h21 b21 c7_ "members" c19_ .null := D21 (Or.inr (hV hw 130)) (ty := (.object c12_)) dE_
    refine oG X21 H r0_152_153 155 (lA17_ p0 p1 p2 p3 p4 p5 (1 : Int32) xq x1 x2 x3 w0 w1 w2 b13) [(.ref b13), (.ref b21), (.ref b21)] ?_
    refine ocI X21 H (wb18_ hw) (rm20_45 hw Z0 g_b21 E_b21 F_members_b21) e21 1 b21 [(.ref b13)] [(.ref b21)] pd_15 at_155 fun T23 _ _ X23 hQ23 => ?_
    obtain ⟨rfl, N23, K23, E_b21', F_members_b21'⟩ := hQ23
    replace N0 := Fr.app N0 N23
    replace hk := Nat.le_trans hk K23.1
    replace E_b13 := E_b13.keep K23
    replace E_b16 := E_b16.keep K23
    replace F_name_b16 := F_name_b16.keep K23 (ninS ne_b16_b21 nin0)
    replace F_value_b16 := F_value_b16.keep K23 (ninS ne_b16_b21 nin0)
    replace F_modCount_b13 := F_modCount_b13.keep K23 (ninS ne_b13_b21 nin0)
    replace F_elementData_b13 := F_elementData_b13.keep K23 (ninS ne_b13_b21 nin0)
    replace F_size_b13 := F_size_b13.keep K23 (ninS ne_b13_b21 nin0)
    replace V_b20_0 := V_b20_0.keep K23 (ninS ne_b20_0_b21 nin0)
    replace OZ := OZ.keep K23 (allS g_b21 all0)
    replace K0 := K0.trans K23 (allS (Or.inr sz_b21) all0)
    replace Z0 := Nat.le_trans Z0 K23.1
    replace E_b21 := E_b21'
    have F_members_b21 := F_members_b21'
    refine oG X23 H r0_158_158 160 (lA17_ p0 p1 p2 p3 p4 p5 (1 : Int32) xq x1 x2 x3 w0 w1 w2 b13) [(.ref xq), (.ref b21)] ?_
    by_cases hc26 : v1 = vq
    · skip
      show own_Go p e below _ (T23.setTop (mkF m 160 (lA17_ p0 p1 p2 p3 p4 p5 (1 : Int32) xq x1 x2 x3 w0 w1 w2 b13) [(.ref xq), (.ref b21)]))
      refine ocV X23 H (wb23_ hw) (rm21_63 hw Z0 F_members_b21 (T_xq.keep K0) (V_em.keep K0 nin0) E_b13 F_modCount_b13 F_elementData_b13 F_size_b13 V_b20_0 E_b16 F_name_b16 F_value_b16 (T_x1.keep K0) (E_w0.keep K0) S_DEFAULTCAPACITY_EMPTY_ELEMENTDATA S_COMPACT_STRINGS OZ (by decide : ¬ ((0 : Int32) = (1 : Int32))) (by decide : (0 : Int32) < (1 : Int32)) hc26 hcs (Ne.symm ne_xq_x1) (by decide : (1 : Int32) = (1 : Int32))) (rfl : T23.heap = _) 0 b21 E_b21 [(.ref xq)] [] pd_16 at_160 fun T28 _ _ X28 hQ28 => ?_
      obtain ⟨b28_0, b28_1, k28_2, rfl, N28, K28, E_b28_0', _, F_elementData_b28_0', F_size_b28_0', V_b28_1', _⟩ := hQ28
      replace N0 := Fr.app N0 N28
      replace hk := Nat.le_trans hk K28.1
      replace OZ := OZ.keep K28 all0
      replace K0 := K0.trans K28 all0
      replace Z0 := Nat.le_trans Z0 K28.1
      have E_b28_0 := E_b28_0'
      have F_elementData_b28_0 := F_elementData_b28_0'
      have F_size_b28_0 := F_size_b28_0'
      have V_b28_1 := V_b28_1'
      refine oG X28 H r0_163_163 165 (lA18_ p0 p1 p2 p3 p4 p5 (1 : Int32) xq x1 x2 x3 w0 w1 w2 b13 b28_0) [] ?_
      refine oNw X28 H (hV hw 47) (hV hw 48) (hV hw 49) rfl at_165 fun T29 h29 b29 X29 e29 E29 u29 E_b29 D29 => ?_
      have g_b29 := Nat.le_trans Z0 u29
      have sz_b29 := Nat.le_trans K0.1 u29
      have ne_b28_0_b29 := oNl E_b28_0.lt u29
      have ne_b28_1_b29 := oNl V_b28_1.lt u29
      replace hk := Nat.le_trans hk E29.1
      replace E_b28_0 := E_b28_0.ext E29
      replace F_elementData_b28_0 := F_elementData_b28_0.ext E29
      replace F_size_b28_0 := F_size_b28_0.ext E29
      replace V_b28_1 := V_b28_1.ext E29
      replace OZ := OZ.ext E29
      replace K0 := K0.ext E29
      replace Z0 := Nat.le_trans Z0 E29.1
      have F_modCount_b29 : Fld Z h29 b29 c4_ "modCount" "I" oZ := D29 (Or.inl (hV hw 67)) (ty := .int) dE_
      have F_elementData_b29 : Fld Z h29 b29 c0_ "elementData" c3_ .null := D29 (Or.inl (hV hw 70)) (ty := (.array (.object c1_))) dE_
      have F_size_b29 : Fld Z h29 b29 c0_ "size" "I" oZ := D29 (Or.inl (hV hw 99)) (ty := .int) dE_
      refine oG X29 H r0_168_168 169 (lA18_ p0 p1 p2 p3 p4 p5 (1 : Int32) xq x1 x2 x3 w0 w1 w2 b13 b28_0) [(.ref b29), (.ref b29)] ?_
      refine ocI X29 H (wb16_ hw) (rm10_43 hw Z0 g_b29 E_b29 F_modCount_b29 F_elementData_b29 F_size_b29 S_DEFAULTCAPACITY_EMPTY_ELEMENTDATA OZ) e29 1 b29 [] [(.ref b29)] pd_3 at_169 fun T31 _ _ X31 hQ31 => ?_
      obtain ⟨rfl, N31, K31, E_b29', F_modCount_b29', F_elementData_b29', F_size_b29'⟩ := hQ31
      replace N0 := Fr.app N0 N31
      replace hk := Nat.le_trans hk K31.1
      replace E_b28_0 := E_b28_0.keep K31
      replace F_elementData_b28_0 := F_elementData_b28_0.keep K31 (ninS ne_b28_0_b29 nin0)
      replace F_size_b28_0 := F_size_b28_0.keep K31 (ninS ne_b28_0_b29 nin0)
      replace V_b28_1 := V_b28_1.keep K31 (ninS ne_b28_1_b29 nin0)
      replace OZ := OZ.keep K31 (allS g_b29 all0)
      replace K0 := K0.trans K31 (allS (Or.inr sz_b29) all0)
      replace Z0 := Nat.le_trans Z0 K31.1
      replace E_b29 := E_b29'
      have F_modCount_b29 := F_modCount_b29'
      have F_elementData_b29 := F_elementData_b29'
      have F_size_b29 := F_size_b29'
      refine oIN X31 H r0_172_174 at_176 (lA10_ p0 p1 p2 p3 p4 p5 (1 : Int32) xq x1 x2 x3 w0 w1 w2 b13 b28_0 b29) [] rfl ((if0 _ _).trans (tlt (by decide : (0 : Int32) < (1 : Int32))).2.2.2) ?_
      refine oH X31 H r0_179_181 183 [(.ref x1), (.ref xq)] ?_
      refine ocV X31 H (wb37_ hw) (rm28_eq hw Z0 OZ S_COMPACT_STRINGS hcs (T_xq.keep K0) (T_x1.keep K0) ne_xq_x1 hc26.symm) (rfl : T31.heap = _) 0 xq (own_Str.exa (T_xq.keep K0)) [(.ref x1)] [] pd_10 at_183 fun T33 _ _ X33 hQ33 => ?_
      obtain ⟨rfl, N33, e33⟩ := hQ33
      replace N0 := Fr.app N0 N33
      refine oIN X33 H oD0 at_186 (lA10_ p0 p1 p2 p3 p4 p5 (1 : Int32) xq x1 x2 x3 w0 w1 w2 b13 b28_0 b29) [] rfl ((if0 _ _).trans (feq (by decide : ¬ ((1 : Int32) = (0 : Int32)))).1) ?_
      refine oH X33 H r0_189_191 193 [(.ref w0), (.ref b29)] ?_
      refine ocV X33 H (wb38_ hw) (rm15_62 hw Z0 g_b29 E_b29 F_modCount_b29 F_elementData_b29 F_size_b29 (E_w0.keep K0) (V_em.keep K0 nin0) S_DEFAULTCAPACITY_EMPTY_ELEMENTDATA OZ) e33 0 b29 E_b29 [(.ref w0)] [] pd_10 at_193 fun T35 _ _ X35 hQ35 => ?_
      obtain ⟨b35_0, k35_1, rfl, N35, K35, E_b29', _, F_elementData_b29', F_size_b29', V_b35_0', _⟩ := hQ35
      replace N0 := Fr.app N0 N35
      replace hk := Nat.le_trans hk K35.1
      replace E_b28_0 := E_b28_0.keep K35
      replace F_elementData_b28_0 := F_elementData_b28_0.keep K35 (ninS ne_b28_0_b29 nin0)
      replace F_size_b28_0 := F_size_b28_0.keep K35 (ninS ne_b28_0_b29 nin0)
      replace V_b28_1 := V_b28_1.keep K35 (ninS ne_b28_1_b29 nin0)
      replace Z0 := Nat.le_trans Z0 K35.1
      replace E_b29 := E_b29'
      have F_elementData_b29 := F_elementData_b29'
      have F_size_b29 := F_size_b29'
      have V_b35_0 := V_b35_0'
      refine oB_ (tF_ T35 (mkF m 197 (lA10_ p0 p1 p2 p3 p4 p5 (1 : Int32) xq x1 x2 x3 w0 w1 w2 b13 b28_0 b29) [])) (fun t k => ?_) ?_
      · refine XS.pop X35.here hx rfl (hb hby at_196) rfl rfl ?_
        exact k
      refine oCY X35 H r0_197_199 at_200 221 (lA10_ p0 p1 p2 p3 p4 p5 (1 : Int32) xq x1 x2 x3 w0 w1 w2 b13 b28_0 b29) [] rfl (flt (by decide : ¬ ((1 : Int32) < (1 : Int32)))).2.2.2 ?_
      refine oCY X35 H r0_221_223 at_224 245 (lA10_ p0 p1 p2 p3 p4 p5 (1 : Int32) xq x1 x2 x3 w0 w1 w2 b13 b28_0 b29) [] rfl (flt (by decide : ¬ ((2 : Int32) < (1 : Int32)))).2.2.2 ?_
      exact own_D1 (h0 := h0) p0 p1 p2 p3 p4 p5 (1 : Int32) xq x1 x2 x3 w0 w1 w2 b13 b28_0 b29 b28_1 b35_0 k28_2 k35_1 w0 (X35.mono (cells' := 50) (slots' := 1000) dE_ dE_) hx hZ hw hby hml hown hSi Bret Blk (rfl : T35.heap = _) N0 Z0 E_b28_0 F_elementData_b28_0 F_size_b28_0 E_b29 F_elementData_b29 F_size_b29 V_b28_1 V_b35_0 hk
    show own_Go p e below _ (T23.setTop (mkF m 160 (lA17_ p0 p1 p2 p3 p4 p5 (1 : Int32) xq x1 x2 x3 w0 w1 w2 b13) [(.ref xq), (.ref b21)]))
    refine ocV X23 H (wb23_ hw) (rm21_64 hw Z0 F_members_b21 (T_xq.keep K0) E_b13 F_modCount_b13 F_elementData_b13 F_size_b13 V_b20_0 E_b16 F_name_b16 (T_x1.keep K0) S_DEFAULTCAPACITY_EMPTY_ELEMENTDATA S_COMPACT_STRINGS OZ (by decide : ¬ ((0 : Int32) = (1 : Int32))) (by decide : (0 : Int32) < (1 : Int32)) hc26 hcs (Ne.symm ne_xq_x1) (by decide : (1 : Int32) = (1 : Int32))) (rfl : T23.heap = _) 0 b21 E_b21 [(.ref xq)] [] pd_16 at_160 fun T37 _ _ X37 hQ37 => ?_
    obtain ⟨b37_0, rfl, N37, K37, E_b37_0', _, F_elementData_b37_0', F_size_b37_0', _⟩ := hQ37
    replace N0 := Fr.app N0 N37
    replace hk := Nat.le_trans hk K37.1
    replace OZ := OZ.keep K37 all0
    replace K0 := K0.trans K37 all0
    replace Z0 := Nat.le_trans Z0 K37.1
    have E_b37_0 := E_b37_0'
    have F_elementData_b37_0 := F_elementData_b37_0'
    have F_size_b37_0 := F_size_b37_0'
    refine oG X37 H r0_163_163 165 (lA18_ p0 p1 p2 p3 p4 p5 (1 : Int32) xq x1 x2 x3 w0 w1 w2 b13 b37_0) [] ?_
    refine oNw X37 H (hV hw 47) (hV hw 48) (hV hw 49) rfl at_165 fun T38 h38 b38 X38 e38 E38 u38 E_b38 D38 => ?_
    have g_b38 := Nat.le_trans Z0 u38
    have sz_b38 := Nat.le_trans K0.1 u38
    have ne_b37_0_b38 := oNl E_b37_0.lt u38
    replace hk := Nat.le_trans hk E38.1
    replace E_b37_0 := E_b37_0.ext E38
    replace F_elementData_b37_0 := F_elementData_b37_0.ext E38
    replace F_size_b37_0 := F_size_b37_0.ext E38
    replace OZ := OZ.ext E38
    replace K0 := K0.ext E38
    replace Z0 := Nat.le_trans Z0 E38.1
    have F_modCount_b38 : Fld Z h38 b38 c4_ "modCount" "I" oZ := D38 (Or.inl (hV hw 67)) (ty := .int) dE_
    have F_elementData_b38 : Fld Z h38 b38 c0_ "elementData" c3_ .null := D38 (Or.inl (hV hw 70)) (ty := (.array (.object c1_))) dE_
    have F_size_b38 : Fld Z h38 b38 c0_ "size" "I" oZ := D38 (Or.inl (hV hw 99)) (ty := .int) dE_
    refine oG X38 H r0_168_168 169 (lA18_ p0 p1 p2 p3 p4 p5 (1 : Int32) xq x1 x2 x3 w0 w1 w2 b13 b37_0) [(.ref b38), (.ref b38)] ?_
    refine ocI X38 H (wb16_ hw) (rm10_43 hw Z0 g_b38 E_b38 F_modCount_b38 F_elementData_b38 F_size_b38 S_DEFAULTCAPACITY_EMPTY_ELEMENTDATA OZ) e38 1 b38 [] [(.ref b38)] pd_3 at_169 fun T40 _ _ X40 hQ40 => ?_
    obtain ⟨rfl, N40, K40, E_b38', _, F_elementData_b38', F_size_b38'⟩ := hQ40
    replace N0 := Fr.app N0 N40
    replace hk := Nat.le_trans hk K40.1
    replace E_b37_0 := E_b37_0.keep K40
    replace F_elementData_b37_0 := F_elementData_b37_0.keep K40 (ninS ne_b37_0_b38 nin0)
    replace F_size_b37_0 := F_size_b37_0.keep K40 (ninS ne_b37_0_b38 nin0)
    replace OZ := OZ.keep K40 (allS g_b38 all0)
    replace K0 := K0.trans K40 (allS (Or.inr sz_b38) all0)
    replace Z0 := Nat.le_trans Z0 K40.1
    replace E_b38 := E_b38'
    have F_elementData_b38 := F_elementData_b38'
    have F_size_b38 := F_size_b38'
    refine oIN X40 H r0_172_174 at_176 (lA10_ p0 p1 p2 p3 p4 p5 (1 : Int32) xq x1 x2 x3 w0 w1 w2 b13 b37_0 b38) [] rfl ((if0 _ _).trans (tlt (by decide : (0 : Int32) < (1 : Int32))).2.2.2) ?_
    refine oH X40 H r0_179_181 183 [(.ref x1), (.ref xq)] ?_
    refine ocV X40 H (wb37_ hw) (rm28_ne hw Z0 OZ S_COMPACT_STRINGS hcs (T_xq.keep K0) (T_x1.keep K0) ne_xq_x1 (fun q => hc26 q.symm)) (rfl : T40.heap = _) 0 xq (own_Str.exa (T_xq.keep K0)) [(.ref x1)] [] pd_10 at_183 fun T42 _ _ X42 hQ42 => ?_
    obtain ⟨rfl, N42, e42⟩ := hQ42
    replace N0 := Fr.app N0 N42
    refine oIY X42 H oD0 at_186 197 (lA10_ p0 p1 p2 p3 p4 p5 (1 : Int32) xq x1 x2 x3 w0 w1 w2 b13 b37_0 b38) [] rfl ((if0 _ _).trans (teq (by decide : (0 : Int32) = (0 : Int32))).1) ?_
    refine oCY X42 H r0_197_199 at_200 221 (lA10_ p0 p1 p2 p3 p4 p5 (1 : Int32) xq x1 x2 x3 w0 w1 w2 b13 b37_0 b38) [] rfl (flt (by decide : ¬ ((1 : Int32) < (1 : Int32)))).2.2.2 ?_
    refine oCY X42 H r0_221_223 at_224 245 (lA10_ p0 p1 p2 p3 p4 p5 (1 : Int32) xq x1 x2 x3 w0 w1 w2 b13 b37_0 b38) [] rfl (flt (by decide : ¬ ((2 : Int32) < (1 : Int32)))).2.2.2 ?_
    exact own_D0 (h0 := h0) p0 p1 p2 p3 p4 p5 (1 : Int32) xq x1 x2 x3 w0 w1 w2 b13 b37_0 b38 em ke (X42.mono (cells' := 50) (slots' := 1000) dE_ dE_) hx hZ hw hby hml hown hSi Bret Blk e42 N0 Z0 E_b37_0 F_elementData_b37_0 F_size_b37_0 E_b38 F_elementData_b38 F_size_b38 (V_em.keep K0 nin0) hk
  · subst hk3
    show own_Go p e below _ (s₁.setTop (mkF m 66 (lA16_ p0 p1 p2 p3 p4 p5 (2 : Int32) xq x1 x2 x3 w0 w1 w2) []))
    refine oNw X0 H (hV hw 47) (hV hw 48) (hV hw 49) e0 at_66 fun T43 h43 b43 X43 e43 E43 u43 E_b43 D43 => ?_
    have g_b43 := Nat.le_trans Z0 u43
    have sz_b43 := Nat.le_trans K0.1 u43
    replace hk := Nat.le_trans hk E43.1
    replace OZ := OZ.ext E43
    replace K0 := K0.ext E43
    replace Z0 := Nat.le_trans Z0 E43.1
    have F_modCount_b43 : Fld Z h43 b43 c4_ "modCount" "I" oZ := D43 (Or.inl (hV hw 67)) (ty := .int) dE_
    have F_elementData_b43 : Fld Z h43 b43 c0_ "elementData" c3_ .null := D43 (Or.inl (hV hw 70)) (ty := (.array (.object c1_))) dE_
    have F_size_b43 : Fld Z h43 b43 c0_ "size" "I" oZ := D43 (Or.inl (hV hw 99)) (ty := .int) dE_
    refine oG X43 H r0_69_69 70 (lA16_ p0 p1 p2 p3 p4 p5 (2 : Int32) xq x1 x2 x3 w0 w1 w2) [(.ref b43), (.ref b43)] ?_
    refine ocI X43 H (wb16_ hw) (rm10_43 hw Z0 g_b43 E_b43 F_modCount_b43 F_elementData_b43 F_size_b43 S_DEFAULTCAPACITY_EMPTY_ELEMENTDATA OZ) e43 1 b43 [] [(.ref b43)] pd_3 at_70 fun T45 _ _ X45 hQ45 => ?_
    obtain ⟨rfl, N45, K45, E_b43', F_modCount_b43', F_elementData_b43', F_size_b43'⟩ := hQ45
    replace N0 := Fr.app N0 N45
    replace hk := Nat.le_trans hk K45.1
    replace OZ := OZ.keep K45 (allS g_b43 all0)
    replace K0 := K0.trans K45 (allS (Or.inr sz_b43) all0)
    replace Z0 := Nat.le_trans Z0 K45.1
    replace E_b43 := E_b43'
    have F_modCount_b43 := F_modCount_b43'
    have F_elementData_b43 := F_elementData_b43'
    have F_size_b43 := F_size_b43'
    refine oIN X45 H r0_73_75 at_77 (lA17_ p0 p1 p2 p3 p4 p5 (2 : Int32) xq x1 x2 x3 w0 w1 w2 b43) [] rfl ((if0 _ _).trans (tlt (by decide : (0 : Int32) < (2 : Int32))).2.2.2) ?_
    refine oH X45 H r0_80_80 82 [(.ref b43)] ?_
    refine oNw X45 H (hV hw 71) (hV hw 72) (hV hw 73) rfl at_82 fun T46 h46 b46 X46 e46 E46 u46 E_b46 D46 => ?_
    have g_b46 := Nat.le_trans Z0 u46
    have sz_b46 := Nat.le_trans K0.1 u46
    have ne_b43_b46 := oNl E_b43.lt u46
    replace hk := Nat.le_trans hk E46.1
    replace E_b43 := E_b43.ext E46
    replace F_modCount_b43 := F_modCount_b43.ext E46
    replace F_elementData_b43 := F_elementData_b43.ext E46
    replace F_size_b43 := F_size_b43.ext E46
    replace OZ := OZ.ext E46
    replace K0 := K0.ext E46
    replace Z0 := Nat.le_trans Z0 E46.1
    have F_name_b46 : Fld Z h46 b46 c6_ "name" c9_ .null := D46 (Or.inr (hV hw 84)) (ty := (.object c2_)) dE_
    have F_value_b46 : Fld Z h46 b46 c6_ "value" c11_ .null := D46 (Or.inr (hV hw 86)) (ty := (.object c1_)) dE_
    refine oG X46 H r0_85_88 90 (lA17_ p0 p1 p2 p3 p4 p5 (2 : Int32) xq x1 x2 x3 w0 w1 w2 b43) [(.ref w0), (.ref x1), (.ref b46), (.ref b46), (.ref b43)] ?_
    refine ocI X46 H (wb25_ hw) (rm13_50 hw Z0 g_b46 E_b46 F_name_b46 F_value_b46) e46 2 b46 [(.ref x1), (.ref w0)] [(.ref b46), (.ref b43)] pd_9 at_90 fun T48 _ _ X48 hQ48 => ?_
    obtain ⟨rfl, N48, K48, E_b46', F_name_b46', F_value_b46'⟩ := hQ48
    replace N0 := Fr.app N0 N48
    replace hk := Nat.le_trans hk K48.1
    replace E_b43 := E_b43.keep K48
    replace F_modCount_b43 := F_modCount_b43.keep K48 (ninS ne_b43_b46 nin0)
    replace F_elementData_b43 := F_elementData_b43.keep K48 (ninS ne_b43_b46 nin0)
    replace F_size_b43 := F_size_b43.keep K48 (ninS ne_b43_b46 nin0)
    replace OZ := OZ.keep K48 (allS g_b46 all0)
    replace K0 := K0.trans K48 (allS (Or.inr sz_b46) all0)
    replace Z0 := Nat.le_trans Z0 K48.1
    replace E_b46 := E_b46'
    have F_name_b46 := F_name_b46'
    have F_value_b46 := F_value_b46'
    refine ocF X48 H (wb30_ hw) (rm15_55 hw Z0 g_b43 E_b43 F_modCount_b43 F_elementData_b43 F_size_b43 E_b46 (V_em.keep K0 nin0) S_DEFAULTCAPACITY_EMPTY_ELEMENTDATA OZ) (rfl : T48.heap = _) 0 b43 E_b43 [(.ref b46)] [] pd_10 at_93 fun T50 _ _ X50 hQ50 => ?_
    obtain ⟨_, _, rfl, N50, K50, E_b43', F_modCount_b43', F_elementData_b43', F_size_b43', V_b50_0', Ov_k50_1', sz_b50_0'⟩ := hQ50
    replace N0 := Fr.app N0 N50
    have g_b50_0 := Nat.le_trans Z0 sz_b50_0'
    have sz_b50_0 := Nat.le_trans K0.1 sz_b50_0'
    have ne_b46_b50_0 := oNl E_b46.lt sz_b50_0'
    replace hk := Nat.le_trans hk K50.1
    replace E_b46 := E_b46.keep K50
    replace F_name_b46 := F_name_b46.keep K50 (ninS (Ne.symm ne_b43_b46) nin0)
    replace F_value_b46 := F_value_b46.keep K50 (ninS (Ne.symm ne_b43_b46) nin0)
    replace OZ := OZ.keep K50 (allS g_b43 all0)
    replace K0 := K0.trans K50 (allS (Or.inr sz_b43) all0)
    replace Z0 := Nat.le_trans Z0 K50.1
    replace E_b43 := E_b43'
    have F_modCount_b43 : Fld Z T50.heap b43 c4_ "modCount" "I" (.int (1 : Int32)) := F_modCount_b43'
    have F_elementData_b43 := F_elementData_b43'
    have F_size_b43 := F_size_b43'
    have V_b50_0 := V_b50_0'
    have Ov_k50_1 := Ov_k50_1'
    refine oB_ (tF_ T50 (mkF m 99 (lA17_ p0 p1 p2 p3 p4 p5 (2 : Int32) xq x1 x2 x3 w0 w1 w2 b43) [])) (fun t k => ?_) ?_
    · refine XS.pop X50.here hx rfl (hb hby at_98) rfl rfl ?_
      exact k
    refine oCN X50 H r0_99_101 at_102 (lA17_ p0 p1 p2 p3 p4 p5 (2 : Int32) xq x1 x2 x3 w0 w1 w2 b43) [] rfl (tlt (by decide : (1 : Int32) < (2 : Int32))).2.2.2 ?_
    refine oH X50 H r0_105_105 107 [(.ref b43)] ?_
    refine oNw X50 H (hV hw 71) (hV hw 72) (hV hw 73) rfl at_107 fun T51 h51 b51 X51 e51 E51 u51 E_b51 D51 => ?_
    have g_b51 := Nat.le_trans Z0 u51
    have sz_b51 := Nat.le_trans K0.1 u51
    have ne_b43_b51 := oNl E_b43.lt u51
    have ne_b46_b51 := oNl E_b46.lt u51
    have ne_b50_0_b51 := oNl V_b50_0.lt u51
    replace hk := Nat.le_trans hk E51.1
    replace E_b43 := E_b43.ext E51
    replace E_b46 := E_b46.ext E51
    replace F_name_b46 := F_name_b46.ext E51
    replace F_value_b46 := F_value_b46.ext E51
    replace F_modCount_b43 := F_modCount_b43.ext E51
    replace F_elementData_b43 := F_elementData_b43.ext E51
    replace F_size_b43 := F_size_b43.ext E51
    replace V_b50_0 := V_b50_0.ext E51
    replace OZ := OZ.ext E51
    replace K0 := K0.ext E51
    replace Z0 := Nat.le_trans Z0 E51.1
    have F_name_b51 : Fld Z h51 b51 c6_ "name" c9_ .null := D51 (Or.inr (hV hw 84)) (ty := (.object c2_)) dE_
    have F_value_b51 : Fld Z h51 b51 c6_ "value" c11_ .null := D51 (Or.inr (hV hw 86)) (ty := (.object c1_)) dE_
    refine oG X51 H r0_110_113 115 (lA17_ p0 p1 p2 p3 p4 p5 (2 : Int32) xq x1 x2 x3 w0 w1 w2 b43) [(.ref w1), (.ref x2), (.ref b51), (.ref b51), (.ref b43)] ?_
    refine ocI X51 H (wb25_ hw) (rm13_50 hw Z0 g_b51 E_b51 F_name_b51 F_value_b51) e51 2 b51 [(.ref x2), (.ref w1)] [(.ref b51), (.ref b43)] pd_9 at_115 fun T53 _ _ X53 hQ53 => ?_
    obtain ⟨rfl, N53, K53, E_b51', F_name_b51', F_value_b51'⟩ := hQ53
    replace N0 := Fr.app N0 N53
    replace hk := Nat.le_trans hk K53.1
    replace E_b43 := E_b43.keep K53
    replace E_b46 := E_b46.keep K53
    replace F_name_b46 := F_name_b46.keep K53 (ninS ne_b46_b51 nin0)
    replace F_value_b46 := F_value_b46.keep K53 (ninS ne_b46_b51 nin0)
    replace F_modCount_b43 := F_modCount_b43.keep K53 (ninS ne_b43_b51 nin0)
    replace F_elementData_b43 := F_elementData_b43.keep K53 (ninS ne_b43_b51 nin0)
    replace F_size_b43 := F_size_b43.keep K53 (ninS ne_b43_b51 nin0)
    replace V_b50_0 := V_b50_0.keep K53 (ninS ne_b50_0_b51 nin0)
    replace OZ := OZ.keep K53 (allS g_b51 all0)
    replace K0 := K0.trans K53 (allS (Or.inr sz_b51) all0)
    replace Z0 := Nat.le_trans Z0 K53.1
    replace E_b51 := E_b51'
    have F_name_b51 := F_name_b51'
    have F_value_b51 := F_value_b51'
    refine ocF X53 H (wb30_ hw) (rm15_66 hw Z0 g_b43 E_b43 F_modCount_b43 F_elementData_b43 F_size_b43 E_b51 g_b50_0 V_b50_0 Ov_k50_1) (rfl : T53.heap = _) 0 b43 E_b43 [(.ref b51)] [] pd_10 at_118 fun T55 _ _ X55 hQ55 => ?_
    obtain ⟨rfl, N55, K55, E_b43', F_modCount_b43', F_elementData_b43', F_size_b43', V_b50_0'⟩ := hQ55
    replace N0 := Fr.app N0 N55
    replace hk := Nat.le_trans hk K55.1
    replace E_b46 := E_b46.keep K55
    replace F_name_b46 := F_name_b46.keep K55 (ninS (Ne.symm ne_b43_b46) (ninS ne_b46_b50_0 nin0))
    replace F_value_b46 := F_value_b46.keep K55 (ninS (Ne.symm ne_b43_b46) (ninS ne_b46_b50_0 nin0))
    replace E_b51 := E_b51.keep K55
    replace F_name_b51 := F_name_b51.keep K55 (ninS (Ne.symm ne_b43_b51) (ninS (Ne.symm ne_b50_0_b51) nin0))
    replace F_value_b51 := F_value_b51.keep K55 (ninS (Ne.symm ne_b43_b51) (ninS (Ne.symm ne_b50_0_b51) nin0))
    replace OZ := OZ.keep K55 (allS g_b43 (allS g_b50_0 all0))
    replace K0 := K0.trans K55 (allS (Or.inr sz_b43) (allS (Or.inr sz_b50_0) all0))
    replace Z0 := Nat.le_trans Z0 K55.1
    replace E_b43 := E_b43'
    have F_modCount_b43 : Fld Z T55.heap b43 c4_ "modCount" "I" (.int (2 : Int32)) := F_modCount_b43'
    have F_elementData_b43 := F_elementData_b43'
    have F_size_b43 := F_size_b43'
    have V_b50_0 := V_b50_0'
    refine oB_ (tF_ T55 (mkF m 124 (lA17_ p0 p1 p2 p3 p4 p5 (2 : Int32) xq x1 x2 x3 w0 w1 w2 b43) [])) (fun t k => ?_) ?_
    · refine XS.pop X55.here hx rfl (hb hby at_123) rfl rfl ?_
      exact k
    refine oCY X55 H r0_124_126 at_127 149 (lA17_ p0 p1 p2 p3 p4 p5 (2 : Int32) xq x1 x2 x3 w0 w1 w2 b43) [] rfl (flt (by decide : ¬ ((2 : Int32) < (2 : Int32)))).2.2.2 ?_
    refine oNw X55 H (hV hw 122) (hV hw 123) (hV hw 124) rfl at_149 fun T56 h56 b56 X56 e56 E56 u56 E_b56 D56 => ?_
    have g_b56 := Nat.le_trans Z0 u56
    have sz_b56 := Nat.le_trans K0.1 u56
    have ne_b43_b56 := oNl E_b43.lt u56
    have ne_b46_b56 := oNl E_b46.lt u56
    have ne_b51_b56 := oNl E_b51.lt u56
    have ne_b50_0_b56 := oNl V_b50_0.lt u56
    replace hk := Nat.le_trans hk E56.1
    replace E_b43 := E_b43.ext E56
    replace E_b46 := E_b46.ext E56
    replace F_name_b46 := F_name_b46.ext E56
    replace F_value_b46 := F_value_b46.ext E56
    replace E_b51 := E_b51.ext E56
    replace F_name_b51 := F_name_b51.ext E56
    replace F_value_b51 := F_value_b51.ext E56
    replace F_modCount_b43 := F_modCount_b43.ext E56
    replace F_elementData_b43 := F_elementData_b43.ext E56
    replace F_size_b43 := F_size_b43.ext E56
    replace V_b50_0 := V_b50_0.ext E56
    replace OZ := OZ.ext E56
    replace K0 := K0.ext E56
    replace Z0 := Nat.le_trans Z0 E56.1
    have F_members_b56 : Fld Z h56 b56 c7_ "members" c19_ .null := D56 (Or.inr (hV hw 130)) (ty := (.object c12_)) dE_
    refine oG X56 H r0_152_153 155 (lA17_ p0 p1 p2 p3 p4 p5 (2 : Int32) xq x1 x2 x3 w0 w1 w2 b43) [(.ref b43), (.ref b56), (.ref b56)] ?_
    refine ocI X56 H (wb18_ hw) (rm20_45 hw Z0 g_b56 E_b56 F_members_b56) e56 1 b56 [(.ref b43)] [(.ref b56)] pd_15 at_155 fun T58 _ _ X58 hQ58 => ?_
    obtain ⟨rfl, N58, K58, E_b56', F_members_b56'⟩ := hQ58
    replace N0 := Fr.app N0 N58
    replace hk := Nat.le_trans hk K58.1
    replace E_b43 := E_b43.keep K58
    replace E_b46 := E_b46.keep K58
    replace F_name_b46 := F_name_b46.keep K58 (ninS ne_b46_b56 nin0)
    replace F_value_b46 := F_value_b46.keep K58 (ninS ne_b46_b56 nin0)
    replace E_b51 := E_b51.keep K58
    replace F_name_b51 := F_name_b51.keep K58 (ninS ne_b51_b56 nin0)
    replace F_value_b51 := F_value_b51.keep K58 (ninS ne_b51_b56 nin0)
    replace F_modCount_b43 := F_modCount_b43.keep K58 (ninS ne_b43_b56 nin0)
    replace F_elementData_b43 := F_elementData_b43.keep K58 (ninS ne_b43_b56 nin0)
    replace F_size_b43 := F_size_b43.keep K58 (ninS ne_b43_b56 nin0)
    replace V_b50_0 := V_b50_0.keep K58 (ninS ne_b50_0_b56 nin0)
    replace OZ := OZ.keep K58 (allS g_b56 all0)
    replace K0 := K0.trans K58 (allS (Or.inr sz_b56) all0)
    replace Z0 := Nat.le_trans Z0 K58.1
    replace E_b56 := E_b56'
    have F_members_b56 := F_members_b56'
    refine oG X58 H r0_158_158 160 (lA17_ p0 p1 p2 p3 p4 p5 (2 : Int32) xq x1 x2 x3 w0 w1 w2 b43) [(.ref xq), (.ref b56)] ?_
    by_cases hc61 : v1 = vq
    · skip
      show own_Go p e below _ (T58.setTop (mkF m 160 (lA17_ p0 p1 p2 p3 p4 p5 (2 : Int32) xq x1 x2 x3 w0 w1 w2 b43) [(.ref xq), (.ref b56)]))
      by_cases hc64 : v2 = vq
      · skip
        show own_Go p e below _ (T58.setTop (mkF m 160 (lA17_ p0 p1 p2 p3 p4 p5 (2 : Int32) xq x1 x2 x3 w0 w1 w2 b43) [(.ref xq), (.ref b56)]))
        refine ocV X58 H (wb23_ hw) (rm21_71 hw Z0 F_members_b56 (T_xq.keep K0) (V_em.keep K0 nin0) E_b43 F_modCount_b43 F_elementData_b43 F_size_b43 V_b50_0 E_b46 F_name_b46 F_value_b46 E_b51 F_name_b51 F_value_b51 (T_x1.keep K0) (E_w0.keep K0) (T_x2.keep K0) (E_w1.keep K0) S_DEFAULTCAPACITY_EMPTY_ELEMENTDATA S_COMPACT_STRINGS OZ (by decide : ¬ ((0 : Int32) = (2 : Int32))) (by decide : (0 : Int32) < (2 : Int32)) hc61 hcs (Ne.symm ne_xq_x1) (by decide : ¬ ((1 : Int32) = (2 : Int32))) (by decide : (1 : Int32) < (2 : Int32)) hc64 (Ne.symm ne_xq_x2) (by decide : (2 : Int32) = (2 : Int32))) (rfl : T58.heap = _) 0 b56 E_b56 [(.ref xq)] [] pd_16 at_160 fun T66 _ _ X66 hQ66 => ?_
        obtain ⟨b66_0, b66_1, k66_2, rfl, N66, K66, E_b66_0', _, F_elementData_b66_0', F_size_b66_0', V_b66_1', _⟩ := hQ66
        replace N0 := Fr.app N0 N66
        replace hk := Nat.le_trans hk K66.1
        replace OZ := OZ.keep K66 all0
        replace K0 := K0.trans K66 all0
        replace Z0 := Nat.le_trans Z0 K66.1
        have E_b66_0 := E_b66_0'
        have F_elementData_b66_0 := F_elementData_b66_0'
        have F_size_b66_0 := F_size_b66_0'
        have V_b66_1 := V_b66_1'
        refine oG X66 H r0_163_163 165 (lA18_ p0 p1 p2 p3 p4 p5 (2 : Int32) xq x1 x2 x3 w0 w1 w2 b43 b66_0) [] ?_
        refine oNw X66 H (hV hw 47) (hV hw 48) (hV hw 49) rfl at_165 fun T67 h67 b67 X67 e67 E67 u67 E_b67 D67 => ?_
        have g_b67 := Nat.le_trans Z0 u67
        have sz_b67 := Nat.le_trans K0.1 u67
        have ne_b66_0_b67 := oNl E_b66_0.lt u67
        have ne_b66_1_b67 := oNl V_b66_1.lt u67
        replace hk := Nat.le_trans hk E67.1
        replace E_b66_0 := E_b66_0.ext E67
        replace F_elementData_b66_0 := F_elementData_b66_0.ext E67
        replace F_size_b66_0 := F_size_b66_0.ext E67
        replace V_b66_1 := V_b66_1.ext E67
        replace OZ := OZ.ext E67
        replace K0 := K0.ext E67
        replace Z0 := Nat.le_trans Z0 E67.1
        have F_modCount_b67 : Fld Z h67 b67 c4_ "modCount" "I" oZ := D67 (Or.inl (hV hw 67)) (ty := .int) dE_
        have F_elementData_b67 : Fld Z h67 b67 c0_ "elementData" c3_ .null := D67 (Or.inl (hV hw 70)) (ty := (.array (.object c1_))) dE_
        have F_size_b67 : Fld Z h67 b67 c0_ "size" "I" oZ := D67 (Or.inl (hV hw 99)) (ty := .int) dE_
        refine oG X67 H r0_168_168 169 (lA18_ p0 p1 p2 p3 p4 p5 (2 : Int32) xq x1 x2 x3 w0 w1 w2 b43 b66_0) [(.ref b67), (.ref b67)] ?_
        refine ocI X67 H (wb16_ hw) (rm10_43 hw Z0 g_b67 E_b67 F_modCount_b67 F_elementData_b67 F_size_b67 S_DEFAULTCAPACITY_EMPTY_ELEMENTDATA OZ) e67 1 b67 [] [(.ref b67)] pd_3 at_169 fun T69 _ _ X69 hQ69 => ?_
        obtain ⟨rfl, N69, K69, E_b67', F_modCount_b67', F_elementData_b67', F_size_b67'⟩ := hQ69
        replace N0 := Fr.app N0 N69
        replace hk := Nat.le_trans hk K69.1
        replace E_b66_0 := E_b66_0.keep K69
        replace F_elementData_b66_0 := F_elementData_b66_0.keep K69 (ninS ne_b66_0_b67 nin0)
        replace F_size_b66_0 := F_size_b66_0.keep K69 (ninS ne_b66_0_b67 nin0)
        replace V_b66_1 := V_b66_1.keep K69 (ninS ne_b66_1_b67 nin0)
        replace OZ := OZ.keep K69 (allS g_b67 all0)
        replace K0 := K0.trans K69 (allS (Or.inr sz_b67) all0)
        replace Z0 := Nat.le_trans Z0 K69.1
        replace E_b67 := E_b67'
        have F_modCount_b67 := F_modCount_b67'
        have F_elementData_b67 := F_elementData_b67'
        have F_size_b67 := F_size_b67'
        refine oIN X69 H r0_172_174 at_176 (lA10_ p0 p1 p2 p3 p4 p5 (2 : Int32) xq x1 x2 x3 w0 w1 w2 b43 b66_0 b67) [] rfl ((if0 _ _).trans (tlt (by decide : (0 : Int32) < (2 : Int32))).2.2.2) ?_
        refine oH X69 H r0_179_181 183 [(.ref x1), (.ref xq)] ?_
        refine ocV X69 H (wb37_ hw) (rm28_eq hw Z0 OZ S_COMPACT_STRINGS hcs (T_xq.keep K0) (T_x1.keep K0) ne_xq_x1 hc61.symm) (rfl : T69.heap = _) 0 xq (own_Str.exa (T_xq.keep K0)) [(.ref x1)] [] pd_10 at_183 fun T71 _ _ X71 hQ71 => ?_
        obtain ⟨rfl, N71, e71⟩ := hQ71
        replace N0 := Fr.app N0 N71
        refine oIN X71 H oD0 at_186 (lA10_ p0 p1 p2 p3 p4 p5 (2 : Int32) xq x1 x2 x3 w0 w1 w2 b43 b66_0 b67) [] rfl ((if0 _ _).trans (feq (by decide : ¬ ((1 : Int32) = (0 : Int32)))).1) ?_
        refine oH X71 H r0_189_191 193 [(.ref w0), (.ref b67)] ?_
        refine ocV X71 H (wb38_ hw) (rm15_62 hw Z0 g_b67 E_b67 F_modCount_b67 F_elementData_b67 F_size_b67 (E_w0.keep K0) (V_em.keep K0 nin0) S_DEFAULTCAPACITY_EMPTY_ELEMENTDATA OZ) e71 0 b67 E_b67 [(.ref w0)] [] pd_10 at_193 fun T73 _ _ X73 hQ73 => ?_
        obtain ⟨b73_0, k73_1, rfl, N73, K73, E_b67', F_modCount_b67', F_elementData_b67', F_size_b67', V_b73_0', Ov_k73_1', sz_b73_0'⟩ := hQ73
        replace N0 := Fr.app N0 N73
        have g_b73_0 := Nat.le_trans Z0 sz_b73_0'
        have ne_b66_0_b73_0 := oNl E_b66_0.lt sz_b73_0'
        have ne_b66_1_b73_0 := oNl V_b66_1.lt sz_b73_0'
        replace hk := Nat.le_trans hk K73.1
        replace E_b66_0 := E_b66_0.keep K73
        replace F_elementData_b66_0 := F_elementData_b66_0.keep K73 (ninS ne_b66_0_b67 nin0)
        replace F_size_b66_0 := F_size_b66_0.keep K73 (ninS ne_b66_0_b67 nin0)
        replace V_b66_1 := V_b66_1.keep K73 (ninS ne_b66_1_b67 nin0)
        replace OZ := OZ.keep K73 (allS g_b67 all0)
        replace K0 := K0.trans K73 (allS (Or.inr sz_b67) all0)
        replace Z0 := Nat.le_trans Z0 K73.1
        replace E_b67 := E_b67'
        have F_modCount_b67 : Fld Z T73.heap b67 c4_ "modCount" "I" (.int (1 : Int32)) := F_modCount_b67'
        have F_elementData_b67 := F_elementData_b67'
        have F_size_b67 := F_size_b67'
        have V_b73_0 := V_b73_0'
        have Ov_k73_1 := Ov_k73_1'
        refine oB_ (tF_ T73 (mkF m 197 (lA10_ p0 p1 p2 p3 p4 p5 (2 : Int32) xq x1 x2 x3 w0 w1 w2 b43 b66_0 b67) [])) (fun t k => ?_) ?_
        · refine XS.pop X73.here hx rfl (hb hby at_196) rfl rfl ?_
          exact k
        refine oCN X73 H r0_197_199 at_200 (lA10_ p0 p1 p2 p3 p4 p5 (2 : Int32) xq x1 x2 x3 w0 w1 w2 b43 b66_0 b67) [] rfl (tlt (by decide : (1 : Int32) < (2 : Int32))).2.2.2 ?_
        refine oH X73 H r0_203_205 207 [(.ref x2), (.ref xq)] ?_
        refine ocV X73 H (wb37_ hw) (rm28_eq hw Z0 OZ S_COMPACT_STRINGS hcs (T_xq.keep K0) (T_x2.keep K0) ne_xq_x2 hc64.symm) (rfl : T73.heap = _) 0 xq (own_Str.exa (T_xq.keep K0)) [(.ref x2)] [] pd_10 at_207 fun T75 _ _ X75 hQ75 => ?_
        obtain ⟨rfl, N75, e75⟩ := hQ75
        replace N0 := Fr.app N0 N75
        refine oIN X75 H oD0 at_210 (lA10_ p0 p1 p2 p3 p4 p5 (2 : Int32) xq x1 x2 x3 w0 w1 w2 b43 b66_0 b67) [] rfl ((if0 _ _).trans (feq (by decide : ¬ ((1 : Int32) = (0 : Int32)))).1) ?_
        refine oH X75 H r0_213_215 217 [(.ref w1), (.ref b67)] ?_
        refine ocV X75 H (wb38_ hw) (rm15_70 hw Z0 g_b67 E_b67 F_modCount_b67 F_elementData_b67 F_size_b67 (E_w1.keep K0) g_b73_0 V_b73_0 Ov_k73_1) e75 0 b67 E_b67 [(.ref w1)] [] pd_10 at_217 fun T77 _ _ X77 hQ77 => ?_
        obtain ⟨rfl, N77, K77, E_b67', _, F_elementData_b67', F_size_b67', V_b73_0'⟩ := hQ77
        replace N0 := Fr.app N0 N77
        replace hk := Nat.le_trans hk K77.1
        replace E_b66_0 := E_b66_0.keep K77
        replace F_elementData_b66_0 := F_elementData_b66_0.keep K77 (ninS ne_b66_0_b67 (ninS ne_b66_0_b73_0 nin0))
        replace F_size_b66_0 := F_size_b66_0.keep K77 (ninS ne_b66_0_b67 (ninS ne_b66_0_b73_0 nin0))
        replace V_b66_1 := V_b66_1.keep K77 (ninS ne_b66_1_b67 (ninS ne_b66_1_b73_0 nin0))
        replace Z0 := Nat.le_trans Z0 K77.1
        replace E_b67 := E_b67'
        have F_elementData_b67 := F_elementData_b67'
        have F_size_b67 := F_size_b67'
        have V_b73_0 := V_b73_0'
        refine oB_ (tF_ T77 (mkF m 221 (lA10_ p0 p1 p2 p3 p4 p5 (2 : Int32) xq x1 x2 x3 w0 w1 w2 b43 b66_0 b67) [])) (fun t k => ?_) ?_
        · refine XS.pop X77.here hx rfl (hb hby at_220) rfl rfl ?_
          exact k
        refine oCY X77 H r0_221_223 at_224 245 (lA10_ p0 p1 p2 p3 p4 p5 (2 : Int32) xq x1 x2 x3 w0 w1 w2 b43 b66_0 b67) [] rfl (flt (by decide : ¬ ((2 : Int32) < (2 : Int32)))).2.2.2 ?_
        exact own_D2 (h0 := h0) p0 p1 p2 p3 p4 p5 (2 : Int32) xq x1 x2 x3 w0 w1 w2 b43 b66_0 b67 b66_1 b73_0 k66_2 k73_1 w0 w1 (X77.mono (cells' := 50) (slots' := 1000) dE_ dE_) hx hZ hw hby hml hown hSi Bret Blk (rfl : T77.heap = _) N0 Z0 E_b66_0 F_elementData_b66_0 F_size_b66_0 E_b67 F_elementData_b67 F_size_b67 V_b66_1 V_b73_0 hk
      show own_Go p e below _ (T58.setTop (mkF m 160 (lA17_ p0 p1 p2 p3 p4 p5 (2 : Int32) xq x1 x2 x3 w0 w1 w2 b43) [(.ref xq), (.ref b56)]))
      refine ocV X58 H (wb23_ hw) (rm21_72 hw Z0 F_members_b56 (T_xq.keep K0) (V_em.keep K0 nin0) E_b43 F_modCount_b43 F_elementData_b43 F_size_b43 V_b50_0 E_b46 F_name_b46 F_value_b46 E_b51 F_name_b51 (T_x1.keep K0) (E_w0.keep K0) (T_x2.keep K0) S_DEFAULTCAPACITY_EMPTY_ELEMENTDATA S_COMPACT_STRINGS OZ (by decide : ¬ ((0 : Int32) = (2 : Int32))) (by decide : (0 : Int32) < (2 : Int32)) hc61 hcs (Ne.symm ne_xq_x1) (by decide : ¬ ((1 : Int32) = (2 : Int32))) (by decide : (1 : Int32) < (2 : Int32)) hc64 (Ne.symm ne_xq_x2) (by decide : (2 : Int32) = (2 : Int32))) (rfl : T58.heap = _) 0 b56 E_b56 [(.ref xq)] [] pd_16 at_160 fun T79 _ _ X79 hQ79 => ?_
      obtain ⟨b79_0, b79_1, k79_2, rfl, N79, K79, E_b79_0', _, F_elementData_b79_0', F_size_b79_0', V_b79_1', _⟩ := hQ79
      replace N0 := Fr.app N0 N79
      replace hk := Nat.le_trans hk K79.1
      replace OZ := OZ.keep K79 all0
      replace K0 := K0.trans K79 all0
      replace Z0 := Nat.le_trans Z0 K79.1
      have E_b79_0 := E_b79_0'
      have F_elementData_b79_0 := F_elementData_b79_0'
      have F_size_b79_0 := F_size_b79_0'
      have V_b79_1 := V_b79_1'
      refine oG X79 H r0_163_163 165 (lA18_ p0 p1 p2 p3 p4 p5 (2 : Int32) xq x1 x2 x3 w0 w1 w2 b43 b79_0) [] ?_
      refine oNw X79 H (hV hw 47) (hV hw 48) (hV hw 49) rfl at_165 fun T80 h80 b80 X80 e80 E80 u80 E_b80 D80 => ?_
      have g_b80 := Nat.le_trans Z0 u80
      have sz_b80 := Nat.le_trans K0.1 u80
      have ne_b79_0_b80 := oNl E_b79_0.lt u80
      have ne_b79_1_b80 := oNl V_b79_1.lt u80
      replace hk := Nat.le_trans hk E80.1
      replace E_b79_0 := E_b79_0.ext E80
      replace F_elementData_b79_0 := F_elementData_b79_0.ext E80
      replace F_size_b79_0 := F_size_b79_0.ext E80
      replace V_b79_1 := V_b79_1.ext E80
      replace OZ := OZ.ext E80
      replace K0 := K0.ext E80
      replace Z0 := Nat.le_trans Z0 E80.1
      have F_modCount_b80 : Fld Z h80 b80 c4_ "modCount" "I" oZ := D80 (Or.inl (hV hw 67)) (ty := .int) dE_
      have F_elementData_b80 : Fld Z h80 b80 c0_ "elementData" c3_ .null := D80 (Or.inl (hV hw 70)) (ty := (.array (.object c1_))) dE_
      have F_size_b80 : Fld Z h80 b80 c0_ "size" "I" oZ := D80 (Or.inl (hV hw 99)) (ty := .int) dE_
      refine oG X80 H r0_168_168 169 (lA18_ p0 p1 p2 p3 p4 p5 (2 : Int32) xq x1 x2 x3 w0 w1 w2 b43 b79_0) [(.ref b80), (.ref b80)] ?_
      refine ocI X80 H (wb16_ hw) (rm10_43 hw Z0 g_b80 E_b80 F_modCount_b80 F_elementData_b80 F_size_b80 S_DEFAULTCAPACITY_EMPTY_ELEMENTDATA OZ) e80 1 b80 [] [(.ref b80)] pd_3 at_169 fun T82 _ _ X82 hQ82 => ?_
      obtain ⟨rfl, N82, K82, E_b80', F_modCount_b80', F_elementData_b80', F_size_b80'⟩ := hQ82
      replace N0 := Fr.app N0 N82
      replace hk := Nat.le_trans hk K82.1
      replace E_b79_0 := E_b79_0.keep K82
      replace F_elementData_b79_0 := F_elementData_b79_0.keep K82 (ninS ne_b79_0_b80 nin0)
      replace F_size_b79_0 := F_size_b79_0.keep K82 (ninS ne_b79_0_b80 nin0)
      replace V_b79_1 := V_b79_1.keep K82 (ninS ne_b79_1_b80 nin0)
      replace OZ := OZ.keep K82 (allS g_b80 all0)
      replace K0 := K0.trans K82 (allS (Or.inr sz_b80) all0)
      replace Z0 := Nat.le_trans Z0 K82.1
      replace E_b80 := E_b80'
      have F_modCount_b80 := F_modCount_b80'
      have F_elementData_b80 := F_elementData_b80'
      have F_size_b80 := F_size_b80'
      refine oIN X82 H r0_172_174 at_176 (lA10_ p0 p1 p2 p3 p4 p5 (2 : Int32) xq x1 x2 x3 w0 w1 w2 b43 b79_0 b80) [] rfl ((if0 _ _).trans (tlt (by decide : (0 : Int32) < (2 : Int32))).2.2.2) ?_
      refine oH X82 H r0_179_181 183 [(.ref x1), (.ref xq)] ?_
      refine ocV X82 H (wb37_ hw) (rm28_eq hw Z0 OZ S_COMPACT_STRINGS hcs (T_xq.keep K0) (T_x1.keep K0) ne_xq_x1 hc61.symm) (rfl : T82.heap = _) 0 xq (own_Str.exa (T_xq.keep K0)) [(.ref x1)] [] pd_10 at_183 fun T84 _ _ X84 hQ84 => ?_
      obtain ⟨rfl, N84, e84⟩ := hQ84
      replace N0 := Fr.app N0 N84
      refine oIN X84 H oD0 at_186 (lA10_ p0 p1 p2 p3 p4 p5 (2 : Int32) xq x1 x2 x3 w0 w1 w2 b43 b79_0 b80) [] rfl ((if0 _ _).trans (feq (by decide : ¬ ((1 : Int32) = (0 : Int32)))).1) ?_
      refine oH X84 H r0_189_191 193 [(.ref w0), (.ref b80)] ?_
      refine ocV X84 H (wb38_ hw) (rm15_62 hw Z0 g_b80 E_b80 F_modCount_b80 F_elementData_b80 F_size_b80 (E_w0.keep K0) (V_em.keep K0 nin0) S_DEFAULTCAPACITY_EMPTY_ELEMENTDATA OZ) e84 0 b80 E_b80 [(.ref w0)] [] pd_10 at_193 fun T86 _ _ X86 hQ86 => ?_
      obtain ⟨b86_0, k86_1, rfl, N86, K86, E_b80', _, F_elementData_b80', F_size_b80', V_b86_0', _⟩ := hQ86
      replace N0 := Fr.app N0 N86
      replace hk := Nat.le_trans hk K86.1
      replace E_b79_0 := E_b79_0.keep K86
      replace F_elementData_b79_0 := F_elementData_b79_0.keep K86 (ninS ne_b79_0_b80 nin0)
      replace F_size_b79_0 := F_size_b79_0.keep K86 (ninS ne_b79_0_b80 nin0)
      replace V_b79_1 := V_b79_1.keep K86 (ninS ne_b79_1_b80 nin0)
      replace OZ := OZ.keep K86 (allS g_b80 all0)
      replace K0 := K0.trans K86 (allS (Or.inr sz_b80) all0)
      replace Z0 := Nat.le_trans Z0 K86.1
      replace E_b80 := E_b80'
      have F_elementData_b80 := F_elementData_b80'
      have F_size_b80 := F_size_b80'
      have V_b86_0 := V_b86_0'
      refine oB_ (tF_ T86 (mkF m 197 (lA10_ p0 p1 p2 p3 p4 p5 (2 : Int32) xq x1 x2 x3 w0 w1 w2 b43 b79_0 b80) [])) (fun t k => ?_) ?_
      · refine XS.pop X86.here hx rfl (hb hby at_196) rfl rfl ?_
        exact k
      refine oCN X86 H r0_197_199 at_200 (lA10_ p0 p1 p2 p3 p4 p5 (2 : Int32) xq x1 x2 x3 w0 w1 w2 b43 b79_0 b80) [] rfl (tlt (by decide : (1 : Int32) < (2 : Int32))).2.2.2 ?_
      refine oH X86 H r0_203_205 207 [(.ref x2), (.ref xq)] ?_
      refine ocV X86 H (wb37_ hw) (rm28_ne hw Z0 OZ S_COMPACT_STRINGS hcs (T_xq.keep K0) (T_x2.keep K0) ne_xq_x2 (fun q => hc64 q.symm)) (rfl : T86.heap = _) 0 xq (own_Str.exa (T_xq.keep K0)) [(.ref x2)] [] pd_10 at_207 fun T88 _ _ X88 hQ88 => ?_
      obtain ⟨rfl, N88, e88⟩ := hQ88
      replace N0 := Fr.app N0 N88
      refine oIY X88 H oD0 at_210 221 (lA10_ p0 p1 p2 p3 p4 p5 (2 : Int32) xq x1 x2 x3 w0 w1 w2 b43 b79_0 b80) [] rfl ((if0 _ _).trans (teq (by decide : (0 : Int32) = (0 : Int32))).1) ?_
      refine oCY X88 H r0_221_223 at_224 245 (lA10_ p0 p1 p2 p3 p4 p5 (2 : Int32) xq x1 x2 x3 w0 w1 w2 b43 b79_0 b80) [] rfl (flt (by decide : ¬ ((2 : Int32) < (2 : Int32)))).2.2.2 ?_
      exact own_D1 (h0 := h0) p0 p1 p2 p3 p4 p5 (2 : Int32) xq x1 x2 x3 w0 w1 w2 b43 b79_0 b80 b79_1 b86_0 k79_2 k86_1 w0 (X88.mono (cells' := 50) (slots' := 1000) dE_ dE_) hx hZ hw hby hml hown hSi Bret Blk e88 N0 Z0 E_b79_0 F_elementData_b79_0 F_size_b79_0 E_b80 F_elementData_b80 F_size_b80 V_b79_1 V_b86_0 hk
    show own_Go p e below _ (T58.setTop (mkF m 160 (lA17_ p0 p1 p2 p3 p4 p5 (2 : Int32) xq x1 x2 x3 w0 w1 w2 b43) [(.ref xq), (.ref b56)]))
    by_cases hc91 : v2 = vq
    · skip
      show own_Go p e below _ (T58.setTop (mkF m 160 (lA17_ p0 p1 p2 p3 p4 p5 (2 : Int32) xq x1 x2 x3 w0 w1 w2 b43) [(.ref xq), (.ref b56)]))
      refine ocV X58 H (wb23_ hw) (rm21_73 hw Z0 F_members_b56 (T_xq.keep K0) (V_em.keep K0 nin0) E_b43 F_modCount_b43 F_elementData_b43 F_size_b43 V_b50_0 E_b46 F_name_b46 E_b51 F_name_b51 F_value_b51 (T_x1.keep K0) (T_x2.keep K0) (E_w1.keep K0) S_DEFAULTCAPACITY_EMPTY_ELEMENTDATA S_COMPACT_STRINGS OZ (by decide : ¬ ((0 : Int32) = (2 : Int32))) (by decide : (0 : Int32) < (2 : Int32)) hc61 hcs (Ne.symm ne_xq_x1) (by decide : ¬ ((1 : Int32) = (2 : Int32))) (by decide : (1 : Int32) < (2 : Int32)) hc91 (Ne.symm ne_xq_x2) (by decide : (2 : Int32) = (2 : Int32))) (rfl : T58.heap = _) 0 b56 E_b56 [(.ref xq)] [] pd_16 at_160 fun T93 _ _ X93 hQ93 => ?_
      obtain ⟨b93_0, b93_1, k93_2, rfl, N93, K93, E_b93_0', _, F_elementData_b93_0', F_size_b93_0', V_b93_1', _⟩ := hQ93
      replace N0 := Fr.app N0 N93
      replace hk := Nat.le_trans hk K93.1
      replace OZ := OZ.keep K93 all0
      replace K0 := K0.trans K93 all0
      replace Z0 := Nat.le_trans Z0 K93.1
      have E_b93_0 := E_b93_0'
      have F_elementData_b93_0 := F_elementData_b93_0'
      have F_size_b93_0 := F_size_b93_0'
      have V_b93_1 := V_b93_1'
      refine oG X93 H r0_163_163 165 (lA18_ p0 p1 p2 p3 p4 p5 (2 : Int32) xq x1 x2 x3 w0 w1 w2 b43 b93_0) [] ?_
      refine oNw X93 H (hV hw 47) (hV hw 48) (hV hw 49) rfl at_165 fun T94 h94 b94 X94 e94 E94 u94 E_b94 D94 => ?_
      have g_b94 := Nat.le_trans Z0 u94
      have sz_b94 := Nat.le_trans K0.1 u94
      have ne_b93_0_b94 := oNl E_b93_0.lt u94
      have ne_b93_1_b94 := oNl V_b93_1.lt u94
      replace hk := Nat.le_trans hk E94.1
      replace E_b93_0 := E_b93_0.ext E94
      replace F_elementData_b93_0 := F_elementData_b93_0.ext E94
      replace F_size_b93_0 := F_size_b93_0.ext E94
      replace V_b93_1 := V_b93_1.ext E94
      replace OZ := OZ.ext E94
      replace K0 := K0.ext E94
      replace Z0 := Nat.le_trans Z0 E94.1
      have F_modCount_b94 : Fld Z h94 b94 c4_ "modCount" "I" oZ := D94 (Or.inl (hV hw 67)) (ty := .int) dE_
      have F_elementData_b94 : Fld Z h94 b94 c0_ "elementData" c3_ .null := D94 (Or.inl (hV hw 70)) (ty := (.array (.object c1_))) dE_
      have F_size_b94 : Fld Z h94 b94 c0_ "size" "I" oZ := D94 (Or.inl (hV hw 99)) (ty := .int) dE_
      refine oG X94 H r0_168_168 169 (lA18_ p0 p1 p2 p3 p4 p5 (2 : Int32) xq x1 x2 x3 w0 w1 w2 b43 b93_0) [(.ref b94), (.ref b94)] ?_
      refine ocI X94 H (wb16_ hw) (rm10_43 hw Z0 g_b94 E_b94 F_modCount_b94 F_elementData_b94 F_size_b94 S_DEFAULTCAPACITY_EMPTY_ELEMENTDATA OZ) e94 1 b94 [] [(.ref b94)] pd_3 at_169 fun T96 _ _ X96 hQ96 => ?_
      obtain ⟨rfl, N96, K96, E_b94', F_modCount_b94', F_elementData_b94', F_size_b94'⟩ := hQ96
      replace N0 := Fr.app N0 N96
      replace hk := Nat.le_trans hk K96.1
      replace E_b93_0 := E_b93_0.keep K96
      replace F_elementData_b93_0 := F_elementData_b93_0.keep K96 (ninS ne_b93_0_b94 nin0)
      replace F_size_b93_0 := F_size_b93_0.keep K96 (ninS ne_b93_0_b94 nin0)
      replace V_b93_1 := V_b93_1.keep K96 (ninS ne_b93_1_b94 nin0)
      replace OZ := OZ.keep K96 (allS g_b94 all0)
      replace K0 := K0.trans K96 (allS (Or.inr sz_b94) all0)
      replace Z0 := Nat.le_trans Z0 K96.1
      replace E_b94 := E_b94'
      have F_modCount_b94 := F_modCount_b94'
      have F_elementData_b94 := F_elementData_b94'
      have F_size_b94 := F_size_b94'
      refine oIN X96 H r0_172_174 at_176 (lA10_ p0 p1 p2 p3 p4 p5 (2 : Int32) xq x1 x2 x3 w0 w1 w2 b43 b93_0 b94) [] rfl ((if0 _ _).trans (tlt (by decide : (0 : Int32) < (2 : Int32))).2.2.2) ?_
      refine oH X96 H r0_179_181 183 [(.ref x1), (.ref xq)] ?_
      refine ocV X96 H (wb37_ hw) (rm28_ne hw Z0 OZ S_COMPACT_STRINGS hcs (T_xq.keep K0) (T_x1.keep K0) ne_xq_x1 (fun q => hc61 q.symm)) (rfl : T96.heap = _) 0 xq (own_Str.exa (T_xq.keep K0)) [(.ref x1)] [] pd_10 at_183 fun T98 _ _ X98 hQ98 => ?_
      obtain ⟨rfl, N98, e98⟩ := hQ98
      replace N0 := Fr.app N0 N98
      refine oIY X98 H oD0 at_186 197 (lA10_ p0 p1 p2 p3 p4 p5 (2 : Int32) xq x1 x2 x3 w0 w1 w2 b43 b93_0 b94) [] rfl ((if0 _ _).trans (teq (by decide : (0 : Int32) = (0 : Int32))).1) ?_
      refine oCN X98 H r0_197_199 at_200 (lA10_ p0 p1 p2 p3 p4 p5 (2 : Int32) xq x1 x2 x3 w0 w1 w2 b43 b93_0 b94) [] rfl (tlt (by decide : (1 : Int32) < (2 : Int32))).2.2.2 ?_
      refine oH X98 H r0_203_205 207 [(.ref x2), (.ref xq)] ?_
      refine ocV X98 H (wb37_ hw) (rm28_eq hw Z0 OZ S_COMPACT_STRINGS hcs (T_xq.keep K0) (T_x2.keep K0) ne_xq_x2 hc91.symm) e98 0 xq (own_Str.exa (T_xq.keep K0)) [(.ref x2)] [] pd_10 at_207 fun T100 _ _ X100 hQ100 => ?_
      obtain ⟨rfl, N100, e100⟩ := hQ100
      replace N0 := Fr.app N0 N100
      refine oIN X100 H oD0 at_210 (lA10_ p0 p1 p2 p3 p4 p5 (2 : Int32) xq x1 x2 x3 w0 w1 w2 b43 b93_0 b94) [] rfl ((if0 _ _).trans (feq (by decide : ¬ ((1 : Int32) = (0 : Int32)))).1) ?_
      refine oH X100 H r0_213_215 217 [(.ref w1), (.ref b94)] ?_
      refine ocV X100 H (wb38_ hw) (rm15_62 hw Z0 g_b94 E_b94 F_modCount_b94 F_elementData_b94 F_size_b94 (E_w1.keep K0) (V_em.keep K0 nin0) S_DEFAULTCAPACITY_EMPTY_ELEMENTDATA OZ) e100 0 b94 E_b94 [(.ref w1)] [] pd_10 at_217 fun T102 _ _ X102 hQ102 => ?_
      obtain ⟨b102_0, k102_1, rfl, N102, K102, E_b94', _, F_elementData_b94', F_size_b94', V_b102_0', _⟩ := hQ102
      replace N0 := Fr.app N0 N102
      replace hk := Nat.le_trans hk K102.1
      replace E_b93_0 := E_b93_0.keep K102
      replace F_elementData_b93_0 := F_elementData_b93_0.keep K102 (ninS ne_b93_0_b94 nin0)
      replace F_size_b93_0 := F_size_b93_0.keep K102 (ninS ne_b93_0_b94 nin0)
      replace V_b93_1 := V_b93_1.keep K102 (ninS ne_b93_1_b94 nin0)
      replace Z0 := Nat.le_trans Z0 K102.1
      replace E_b94 := E_b94'
      have F_elementData_b94 := F_elementData_b94'
      have F_size_b94 := F_size_b94'
      have V_b102_0 := V_b102_0'
      refine oB_ (tF_ T102 (mkF m 221 (lA10_ p0 p1 p2 p3 p4 p5 (2 : Int32) xq x1 x2 x3 w0 w1 w2 b43 b93_0 b94) [])) (fun t k => ?_) ?_
      · refine XS.pop X102.here hx rfl (hb hby at_220) rfl rfl ?_
        exact k
      refine oCY X102 H r0_221_223 at_224 245 (lA10_ p0 p1 p2 p3 p4 p5 (2 : Int32) xq x1 x2 x3 w0 w1 w2 b43 b93_0 b94) [] rfl (flt (by decide : ¬ ((2 : Int32) < (2 : Int32)))).2.2.2 ?_
      exact own_D1 (h0 := h0) p0 p1 p2 p3 p4 p5 (2 : Int32) xq x1 x2 x3 w0 w1 w2 b43 b93_0 b94 b93_1 b102_0 k93_2 k102_1 w1 (X102.mono (cells' := 50) (slots' := 1000) dE_ dE_) hx hZ hw hby hml hown hSi Bret Blk (rfl : T102.heap = _) N0 Z0 E_b93_0 F_elementData_b93_0 F_size_b93_0 E_b94 F_elementData_b94 F_size_b94 V_b93_1 V_b102_0 hk
    show own_Go p e below _ (T58.setTop (mkF m 160 (lA17_ p0 p1 p2 p3 p4 p5 (2 : Int32) xq x1 x2 x3 w0 w1 w2 b43) [(.ref xq), (.ref b56)]))
    refine ocV X58 H (wb23_ hw) (rm21_74 hw Z0 F_members_b56 (T_xq.keep K0) E_b43 F_modCount_b43 F_elementData_b43 F_size_b43 V_b50_0 E_b46 F_name_b46 E_b51 F_name_b51 (T_x1.keep K0) (T_x2.keep K0) S_DEFAULTCAPACITY_EMPTY_ELEMENTDATA S_COMPACT_STRINGS OZ (by decide : ¬ ((0 : Int32) = (2 : Int32))) (by decide : (0 : Int32) < (2 : Int32)) hc61 hcs (Ne.symm ne_xq_x1) (by decide : ¬ ((1 : Int32) = (2 : Int32))) (by decide : (1 : Int32) < (2 : Int32)) hc91 (Ne.symm ne_xq_x2) (by decide : (2 : Int32) = (2 : Int32))) (rfl : T58.heap = _) 0 b56 E_b56 [(.ref xq)] [] pd_16 at_160 fun T104 _ _ X104 hQ104 => ?_
    obtain ⟨b104_0, rfl, N104, K104, E_b104_0', _, F_elementData_b104_0', F_size_b104_0', _⟩ := hQ104
    replace N0 := Fr.app N0 N104
    replace hk := Nat.le_trans hk K104.1
    replace OZ := OZ.keep K104 all0
    replace K0 := K0.trans K104 all0
    replace Z0 := Nat.le_trans Z0 K104.1
    have E_b104_0 := E_b104_0'
    have F_elementData_b104_0 := F_elementData_b104_0'
    have F_size_b104_0 := F_size_b104_0'
    refine oG X104 H r0_163_163 165 (lA18_ p0 p1 p2 p3 p4 p5 (2 : Int32) xq x1 x2 x3 w0 w1 w2 b43 b104_0) [] ?_
    refine oNw X104 H (hV hw 47) (hV hw 48) (hV hw 49) rfl at_165 fun T105 h105 b105 X105 e105 E105 u105 E_b105 D105 => ?_
    have g_b105 := Nat.le_trans Z0 u105
    have sz_b105 := Nat.le_trans K0.1 u105
    have ne_b104_0_b105 := oNl E_b104_0.lt u105
    replace hk := Nat.le_trans hk E105.1
    replace E_b104_0 := E_b104_0.ext E105
    replace F_elementData_b104_0 := F_elementData_b104_0.ext E105
    replace F_size_b104_0 := F_size_b104_0.ext E105
    replace OZ := OZ.ext E105
    replace K0 := K0.ext E105
    replace Z0 := Nat.le_trans Z0 E105.1
    have F_modCount_b105 : Fld Z h105 b105 c4_ "modCount" "I" oZ := D105 (Or.inl (hV hw 67)) (ty := .int) dE_
    have F_elementData_b105 : Fld Z h105 b105 c0_ "elementData" c3_ .null := D105 (Or.inl (hV hw 70)) (ty := (.array (.object c1_))) dE_
    have F_size_b105 : Fld Z h105 b105 c0_ "size" "I" oZ := D105 (Or.inl (hV hw 99)) (ty := .int) dE_
    refine oG X105 H r0_168_168 169 (lA18_ p0 p1 p2 p3 p4 p5 (2 : Int32) xq x1 x2 x3 w0 w1 w2 b43 b104_0) [(.ref b105), (.ref b105)] ?_
    refine ocI X105 H (wb16_ hw) (rm10_43 hw Z0 g_b105 E_b105 F_modCount_b105 F_elementData_b105 F_size_b105 S_DEFAULTCAPACITY_EMPTY_ELEMENTDATA OZ) e105 1 b105 [] [(.ref b105)] pd_3 at_169 fun T107 _ _ X107 hQ107 => ?_
    obtain ⟨rfl, N107, K107, E_b105', _, F_elementData_b105', F_size_b105'⟩ := hQ107
    replace N0 := Fr.app N0 N107
    replace hk := Nat.le_trans hk K107.1
    replace E_b104_0 := E_b104_0.keep K107
    replace F_elementData_b104_0 := F_elementData_b104_0.keep K107 (ninS ne_b104_0_b105 nin0)
    replace F_size_b104_0 := F_size_b104_0.keep K107 (ninS ne_b104_0_b105 nin0)
    replace OZ := OZ.keep K107 (allS g_b105 all0)
    replace K0 := K0.trans K107 (allS (Or.inr sz_b105) all0)
    replace Z0 := Nat.le_trans Z0 K107.1
    replace E_b105 := E_b105'
    have F_elementData_b105 := F_elementData_b105'
    have F_size_b105 := F_size_b105'
    refine oIN X107 H r0_172_174 at_176 (lA10_ p0 p1 p2 p3 p4 p5 (2 : Int32) xq x1 x2 x3 w0 w1 w2 b43 b104_0 b105) [] rfl ((if0 _ _).trans (tlt (by decide : (0 : Int32) < (2 : Int32))).2.2.2) ?_
    refine oH X107 H r0_179_181 183 [(.ref x1), (.ref xq)] ?_
    refine ocV X107 H (wb37_ hw) (rm28_ne hw Z0 OZ S_COMPACT_STRINGS hcs (T_xq.keep K0) (T_x1.keep K0) ne_xq_x1 (fun q => hc61 q.symm)) (rfl : T107.heap = _) 0 xq (own_Str.exa (T_xq.keep K0)) [(.ref x1)] [] pd_10 at_183 fun T109 _ _ X109 hQ109 => ?_
    obtain ⟨rfl, N109, e109⟩ := hQ109
    replace N0 := Fr.app N0 N109
    refine oIY X109 H oD0 at_186 197 (lA10_ p0 p1 p2 p3 p4 p5 (2 : Int32) xq x1 x2 x3 w0 w1 w2 b43 b104_0 b105) [] rfl ((if0 _ _).trans (teq (by decide : (0 : Int32) = (0 : Int32))).1) ?_
    refine oCN X109 H r0_197_199 at_200 (lA10_ p0 p1 p2 p3 p4 p5 (2 : Int32) xq x1 x2 x3 w0 w1 w2 b43 b104_0 b105) [] rfl (tlt (by decide : (1 : Int32) < (2 : Int32))).2.2.2 ?_
    refine oH X109 H r0_203_205 207 [(.ref x2), (.ref xq)] ?_
    refine ocV X109 H (wb37_ hw) (rm28_ne hw Z0 OZ S_COMPACT_STRINGS hcs (T_xq.keep K0) (T_x2.keep K0) ne_xq_x2 (fun q => hc91 q.symm)) e109 0 xq (own_Str.exa (T_xq.keep K0)) [(.ref x2)] [] pd_10 at_207 fun T111 _ _ X111 hQ111 => ?_
    obtain ⟨rfl, N111, e111⟩ := hQ111
    replace N0 := Fr.app N0 N111
    refine oIY X111 H oD0 at_210 221 (lA10_ p0 p1 p2 p3 p4 p5 (2 : Int32) xq x1 x2 x3 w0 w1 w2 b43 b104_0 b105) [] rfl ((if0 _ _).trans (teq (by decide : (0 : Int32) = (0 : Int32))).1) ?_
    refine oCY X111 H r0_221_223 at_224 245 (lA10_ p0 p1 p2 p3 p4 p5 (2 : Int32) xq x1 x2 x3 w0 w1 w2 b43 b104_0 b105) [] rfl (flt (by decide : ¬ ((2 : Int32) < (2 : Int32)))).2.2.2 ?_
    exact own_D0 (h0 := h0) p0 p1 p2 p3 p4 p5 (2 : Int32) xq x1 x2 x3 w0 w1 w2 b43 b104_0 b105 em ke (X111.mono (cells' := 50) (slots' := 1000) dE_ dE_) hx hZ hw hby hml hown hSi Bret Blk e111 N0 Z0 E_b104_0 F_elementData_b104_0 F_size_b104_0 E_b105 F_elementData_b105 F_size_b105 (V_em.keep K0 nin0) hk
  subst hk3
  show own_Go p e below _ (s₁.setTop (mkF m 66 (lA16_ p0 p1 p2 p3 p4 p5 (3 : Int32) xq x1 x2 x3 w0 w1 w2) []))
  refine oNw X0 H (hV hw 47) (hV hw 48) (hV hw 49) e0 at_66 fun T112 h112 b112 X112 e112 E112 u112 E_b112 D112 => ?_
  have g_b112 := Nat.le_trans Z0 u112
  have sz_b112 := Nat.le_trans K0.1 u112
  replace hk := Nat.le_trans hk E112.1
  replace OZ := OZ.ext E112
  replace K0 := K0.ext E112
  replace Z0 := Nat.le_trans Z0 E112.1
  have F_modCount_b112 : Fld Z h112 b112 c4_ "modCount" "I" oZ := D112 (Or.inl (hV hw 67)) (ty := .int) dE_
  have F_elementData_b112 : Fld Z h112 b112 c0_ "elementData" c3_ .null := D112 (Or.inl (hV hw 70)) (ty := (.array (.object c1_))) dE_
  have F_size_b112 : Fld Z h112 b112 c0_ "size" "I" oZ := D112 (Or.inl (hV hw 99)) (ty := .int) dE_
  refine oG X112 H r0_69_69 70 (lA16_ p0 p1 p2 p3 p4 p5 (3 : Int32) xq x1 x2 x3 w0 w1 w2) [(.ref b112), (.ref b112)] ?_
  refine ocI X112 H (wb16_ hw) (rm10_43 hw Z0 g_b112 E_b112 F_modCount_b112 F_elementData_b112 F_size_b112 S_DEFAULTCAPACITY_EMPTY_ELEMENTDATA OZ) e112 1 b112 [] [(.ref b112)] pd_3 at_70 fun T114 _ _ X114 hQ114 => ?_
  obtain ⟨rfl, N114, K114, E_b112', F_modCount_b112', F_elementData_b112', F_size_b112'⟩ := hQ114
  replace N0 := Fr.app N0 N114
  replace hk := Nat.le_trans hk K114.1
  replace OZ := OZ.keep K114 (allS g_b112 all0)
  replace K0 := K0.trans K114 (allS (Or.inr sz_b112) all0)
  replace Z0 := Nat.le_trans Z0 K114.1
  replace E_b112 := E_b112'
  have F_modCount_b112 := F_modCount_b112'
  have F_elementData_b112 := F_elementData_b112'
  have F_size_b112 := F_size_b112'
  refine oIN X114 H r0_73_75 at_77 (lA17_ p0 p1 p2 p3 p4 p5 (3 : Int32) xq x1 x2 x3 w0 w1 w2 b112) [] rfl ((if0 _ _).trans (tlt (by decide : (0 : Int32) < (3 : Int32))).2.2.2) ?_
  refine oH X114 H r0_80_80 82 [(.ref b112)] ?_
  refine oNw X114 H (hV hw 71) (hV hw 72) (hV hw 73) rfl at_82 fun T115 h115 b115 X115 e115 E115 u115 E_b115 D115 => ?_
  have g_b115 := Nat.le_trans Z0 u115
  have sz_b115 := Nat.le_trans K0.1 u115
  have ne_b112_b115 := oNl E_b112.lt u115
  replace hk := Nat.le_trans hk E115.1
  replace E_b112 := E_b112.ext E115
  replace F_modCount_b112 := F_modCount_b112.ext E115
  replace F_elementData_b112 := F_elementData_b112.ext E115
  replace F_size_b112 := F_size_b112.ext E115
  replace OZ := OZ.ext E115
  replace K0 := K0.ext E115
  replace Z0 := Nat.le_trans Z0 E115.1
  have F_name_b115 : Fld Z h115 b115 c6_ "name" c9_ .null := D115 (Or.inr (hV hw 84)) (ty := (.object c2_)) dE_
  have F_value_b115 : Fld Z h115 b115 c6_ "value" c11_ .null := D115 (Or.inr (hV hw 86)) (ty := (.object c1_)) dE_
  refine oG X115 H r0_85_88 90 (lA17_ p0 p1 p2 p3 p4 p5 (3 : Int32) xq x1 x2 x3 w0 w1 w2 b112) [(.ref w0), (.ref x1), (.ref b115), (.ref b115), (.ref b112)] ?_
  refine ocI X115 H (wb25_ hw) (rm13_50 hw Z0 g_b115 E_b115 F_name_b115 F_value_b115) e115 2 b115 [(.ref x1), (.ref w0)] [(.ref b115), (.ref b112)] pd_9 at_90 fun T117 _ _ X117 hQ117 => ?_
  obtain ⟨rfl, N117, K117, E_b115', F_name_b115', F_value_b115'⟩ := hQ117
  replace N0 := Fr.app N0 N117
  replace hk := Nat.le_trans hk K117.1
  replace E_b112 := E_b112.keep K117
  replace F_modCount_b112 := F_modCount_b112.keep K117 (ninS ne_b112_b115 nin0)
  replace F_elementData_b112 := F_elementData_b112.keep K117 (ninS ne_b112_b115 nin0)
  replace F_size_b112 := F_size_b112.keep K117 (ninS ne_b112_b115 nin0)
  replace OZ := OZ.keep K117 (allS g_b115 all0)
  replace K0 := K0.trans K117 (allS (Or.inr sz_b115) all0)
  replace Z0 := Nat.le_trans Z0 K117.1
  replace E_b115 := E_b115'
  have F_name_b115 := F_name_b115'
  have F_value_b115 := F_value_b115'
  refine ocF X117 H (wb30_ hw) (rm15_55 hw Z0 g_b112 E_b112 F_modCount_b112 F_elementData_b112 F_size_b112 E_b115 (V_em.keep K0 nin0) S_DEFAULTCAPACITY_EMPTY_ELEMENTDATA OZ) (rfl : T117.heap = _) 0 b112 E_b112 [(.ref b115)] [] pd_10 at_93 fun T119 _ _ X119 hQ119 => ?_
  obtain ⟨_, _, rfl, N119, K119, E_b112', F_modCount_b112', F_elementData_b112', F_size_b112', V_b119_0', Ov_k119_1', sz_b119_0'⟩ := hQ119
  replace N0 := Fr.app N0 N119
  have g_b119_0 := Nat.le_trans Z0 sz_b119_0'
  have sz_b119_0 := Nat.le_trans K0.1 sz_b119_0'
  have ne_b115_b119_0 := oNl E_b115.lt sz_b119_0'
  replace hk := Nat.le_trans hk K119.1
  replace E_b115 := E_b115.keep K119
  replace F_name_b115 := F_name_b115.keep K119 (ninS (Ne.symm ne_b112_b115) nin0)
  replace F_value_b115 := F_value_b115.keep K119 (ninS (Ne.symm ne_b112_b115) nin0)
  replace OZ := OZ.keep K119 (allS g_b112 all0)
  replace K0 := K0.trans K119 (allS (Or.inr sz_b112) all0)
  replace Z0 := Nat.le_trans Z0 K119.1
  replace E_b112 := E_b112'
  have F_modCount_b112 : Fld Z T119.heap b112 c4_ "modCount" "I" (.int (1 : Int32)) := F_modCount_b112'
  have F_elementData_b112 := F_elementData_b112'
  have F_size_b112 := F_size_b112'
  have V_b119_0 := V_b119_0'
  have Ov_k119_1 := Ov_k119_1'
  refine oB_ (tF_ T119 (mkF m 99 (lA17_ p0 p1 p2 p3 p4 p5 (3 : Int32) xq x1 x2 x3 w0 w1 w2 b112) [])) (fun t k => ?_) ?_
  · refine XS.pop X119.here hx rfl (hb hby at_98) rfl rfl ?_
    exact k
  refine oCN X119 H r0_99_101 at_102 (lA17_ p0 p1 p2 p3 p4 p5 (3 : Int32) xq x1 x2 x3 w0 w1 w2 b112) [] rfl (tlt (by decide : (1 : Int32) < (3 : Int32))).2.2.2 ?_
  refine oH X119 H r0_105_105 107 [(.ref b112)] ?_
  refine oNw X119 H (hV hw 71) (hV hw 72) (hV hw 73) rfl at_107 fun T120 h120 b120 X120 e120 E120 u120 E_b120 D120 => ?_
  have g_b120 := Nat.le_trans Z0 u120
  have sz_b120 := Nat.le_trans K0.1 u120
  have ne_b112_b120 := oNl E_b112.lt u120
  have ne_b115_b120 := oNl E_b115.lt u120
  have ne_b119_0_b120 := oNl V_b119_0.lt u120
  replace hk := Nat.le_trans hk E120.1
  replace E_b112 := E_b112.ext E120
  replace E_b115 := E_b115.ext E120
  replace F_name_b115 := F_name_b115.ext E120
  replace F_value_b115 := F_value_b115.ext E120
  replace F_modCount_b112 := F_modCount_b112.ext E120
  replace F_elementData_b112 := F_elementData_b112.ext E120
  replace F_size_b112 := F_size_b112.ext E120
  replace V_b119_0 := V_b119_0.ext E120
  replace OZ := OZ.ext E120
  replace K0 := K0.ext E120
  replace Z0 := Nat.le_trans Z0 E120.1
  have F_name_b120 : Fld Z h120 b120 c6_ "name" c9_ .null := D120 (Or.inr (hV hw 84)) (ty := (.object c2_)) dE_
  have F_value_b120 : Fld Z h120 b120 c6_ "value" c11_ .null := D120 (Or.inr (hV hw 86)) (ty := (.object c1_)) dE_
  refine oG X120 H r0_110_113 115 (lA17_ p0 p1 p2 p3 p4 p5 (3 : Int32) xq x1 x2 x3 w0 w1 w2 b112) [(.ref w1), (.ref x2), (.ref b120), (.ref b120), (.ref b112)] ?_
  refine ocI X120 H (wb25_ hw) (rm13_50 hw Z0 g_b120 E_b120 F_name_b120 F_value_b120) e120 2 b120 [(.ref x2), (.ref w1)] [(.ref b120), (.ref b112)] pd_9 at_115 fun T122 _ _ X122 hQ122 => ?_
  obtain ⟨rfl, N122, K122, E_b120', F_name_b120', F_value_b120'⟩ := hQ122
  replace N0 := Fr.app N0 N122
  replace hk := Nat.le_trans hk K122.1
  replace E_b112 := E_b112.keep K122
  replace E_b115 := E_b115.keep K122
  replace F_name_b115 := F_name_b115.keep K122 (ninS ne_b115_b120 nin0)
  replace F_value_b115 := F_value_b115.keep K122 (ninS ne_b115_b120 nin0)
  replace F_modCount_b112 := F_modCount_b112.keep K122 (ninS ne_b112_b120 nin0)
  replace F_elementData_b112 := F_elementData_b112.keep K122 (ninS ne_b112_b120 nin0)
  replace F_size_b112 := F_size_b112.keep K122 (ninS ne_b112_b120 nin0)
  replace V_b119_0 := V_b119_0.keep K122 (ninS ne_b119_0_b120 nin0)
  replace OZ := OZ.keep K122 (allS g_b120 all0)
  replace K0 := K0.trans K122 (allS (Or.inr sz_b120) all0)
  replace Z0 := Nat.le_trans Z0 K122.1
  replace E_b120 := E_b120'
  have F_name_b120 := F_name_b120'
  have F_value_b120 := F_value_b120'
  refine ocF X122 H (wb30_ hw) (rm15_66 hw Z0 g_b112 E_b112 F_modCount_b112 F_elementData_b112 F_size_b112 E_b120 g_b119_0 V_b119_0 Ov_k119_1) (rfl : T122.heap = _) 0 b112 E_b112 [(.ref b120)] [] pd_10 at_118 fun T124 _ _ X124 hQ124 => ?_
  obtain ⟨rfl, N124, K124, E_b112', F_modCount_b112', F_elementData_b112', F_size_b112', V_b119_0'⟩ := hQ124
  replace N0 := Fr.app N0 N124
  replace hk := Nat.le_trans hk K124.1
  replace E_b115 := E_b115.keep K124
  replace F_name_b115 := F_name_b115.keep K124 (ninS (Ne.symm ne_b112_b115) (ninS ne_b115_b119_0 nin0))
  replace F_value_b115 := F_value_b115.keep K124 (ninS (Ne.symm ne_b112_b115) (ninS ne_b115_b119_0 nin0))
  replace E_b120 := E_b120.keep K124
  replace F_name_b120 := F_name_b120.keep K124 (ninS (Ne.symm ne_b112_b120) (ninS (Ne.symm ne_b119_0_b120) nin0))
  replace F_value_b120 := F_value_b120.keep K124 (ninS (Ne.symm ne_b112_b120) (ninS (Ne.symm ne_b119_0_b120) nin0))
  replace OZ := OZ.keep K124 (allS g_b112 (allS g_b119_0 all0))
  replace K0 := K0.trans K124 (allS (Or.inr sz_b112) (allS (Or.inr sz_b119_0) all0))
  replace Z0 := Nat.le_trans Z0 K124.1
  replace E_b112 := E_b112'
  have F_modCount_b112 : Fld Z T124.heap b112 c4_ "modCount" "I" (.int (2 : Int32)) := F_modCount_b112'
  have F_elementData_b112 := F_elementData_b112'
  have F_size_b112 := F_size_b112'
  have V_b119_0 := V_b119_0'
  refine oB_ (tF_ T124 (mkF m 124 (lA17_ p0 p1 p2 p3 p4 p5 (3 : Int32) xq x1 x2 x3 w0 w1 w2 b112) [])) (fun t k => ?_) ?_
  · refine XS.pop X124.here hx rfl (hb hby at_123) rfl rfl ?_
    exact k
  refine oCN X124 H r0_124_126 at_127 (lA17_ p0 p1 p2 p3 p4 p5 (3 : Int32) xq x1 x2 x3 w0 w1 w2 b112) [] rfl (tlt (by decide : (2 : Int32) < (3 : Int32))).2.2.2 ?_
  refine oH X124 H r0_130_130 132 [(.ref b112)] ?_
  refine oNw X124 H (hV hw 71) (hV hw 72) (hV hw 73) rfl at_132 fun T125 h125 b125 X125 e125 E125 u125 E_b125 D125 => ?_
  have g_b125 := Nat.le_trans Z0 u125
  have sz_b125 := Nat.le_trans K0.1 u125
  have ne_b112_b125 := oNl E_b112.lt u125
  have ne_b115_b125 := oNl E_b115.lt u125
  have ne_b120_b125 := oNl E_b120.lt u125
  have ne_b119_0_b125 := oNl V_b119_0.lt u125
  replace hk := Nat.le_trans hk E125.1
  replace E_b112 := E_b112.ext E125
  replace E_b115 := E_b115.ext E125
  replace F_name_b115 := F_name_b115.ext E125
  replace F_value_b115 := F_value_b115.ext E125
  replace E_b120 := E_b120.ext E125
  replace F_name_b120 := F_name_b120.ext E125
  replace F_value_b120 := F_value_b120.ext E125
  replace F_modCount_b112 := F_modCount_b112.ext E125
  replace F_elementData_b112 := F_elementData_b112.ext E125
  replace F_size_b112 := F_size_b112.ext E125
  replace V_b119_0 := V_b119_0.ext E125
  replace OZ := OZ.ext E125
  replace K0 := K0.ext E125
  replace Z0 := Nat.le_trans Z0 E125.1
  have F_name_b125 : Fld Z h125 b125 c6_ "name" c9_ .null := D125 (Or.inr (hV hw 84)) (ty := (.object c2_)) dE_
  have F_value_b125 : Fld Z h125 b125 c6_ "value" c11_ .null := D125 (Or.inr (hV hw 86)) (ty := (.object c1_)) dE_
  refine oG X125 H r0_135_138 140 (lA17_ p0 p1 p2 p3 p4 p5 (3 : Int32) xq x1 x2 x3 w0 w1 w2 b112) [(.ref w2), (.ref x3), (.ref b125), (.ref b125), (.ref b112)] ?_
  refine ocI X125 H (wb25_ hw) (rm13_50 hw Z0 g_b125 E_b125 F_name_b125 F_value_b125) e125 2 b125 [(.ref x3), (.ref w2)] [(.ref b125), (.ref b112)] pd_9 at_140 fun T127 _ _ X127 hQ127 => ?_
  obtain ⟨rfl, N127, K127, E_b125', F_name_b125', F_value_b125'⟩ := hQ127
  replace N0 := Fr.app N0 N127
  replace hk := Nat.le_trans hk K127.1
  replace E_b112 := E_b112.keep K127
  replace E_b115 := E_b115.keep K127
  replace F_name_b115 := F_name_b115.keep K127 (ninS ne_b115_b125 nin0)
  replace F_value_b115 := F_value_b115.keep K127 (ninS ne_b115_b125 nin0)
  replace E_b120 := E_b120.keep K127
  replace F_name_b120 := F_name_b120.keep K127 (ninS ne_b120_b125 nin0)
  replace F_value_b120 := F_value_b120.keep K127 (ninS ne_b120_b125 nin0)
  replace F_modCount_b112 := F_modCount_b112.keep K127 (ninS ne_b112_b125 nin0)
  replace F_elementData_b112 := F_elementData_b112.keep K127 (ninS ne_b112_b125 nin0)
  replace F_size_b112 := F_size_b112.keep K127 (ninS ne_b112_b125 nin0)
  replace V_b119_0 := V_b119_0.keep K127 (ninS ne_b119_0_b125 nin0)
  replace OZ := OZ.keep K127 (allS g_b125 all0)
  replace K0 := K0.trans K127 (allS (Or.inr sz_b125) all0)
  replace Z0 := Nat.le_trans Z0 K127.1
  replace E_b125 := E_b125'
  have F_name_b125 := F_name_b125'
  have F_value_b125 := F_value_b125'
  refine ocF X127 H (wb30_ hw) (rm15_76 hw Z0 g_b112 E_b112 F_modCount_b112 F_elementData_b112 F_size_b112 E_b125 g_b119_0 V_b119_0 Ov_k119_1) (rfl : T127.heap = _) 0 b112 E_b112 [(.ref b125)] [] pd_10 at_143 fun T129 _ _ X129 hQ129 => ?_
  obtain ⟨rfl, N129, K129, E_b112', F_modCount_b112', F_elementData_b112', F_size_b112', V_b119_0'⟩ := hQ129
  replace N0 := Fr.app N0 N129
  replace hk := Nat.le_trans hk K129.1
  replace E_b115 := E_b115.keep K129
  replace F_name_b115 := F_name_b115.keep K129 (ninS (Ne.symm ne_b112_b115) (ninS ne_b115_b119_0 nin0))
  replace F_value_b115 := F_value_b115.keep K129 (ninS (Ne.symm ne_b112_b115) (ninS ne_b115_b119_0 nin0))
  replace E_b120 := E_b120.keep K129
  replace F_name_b120 := F_name_b120.keep K129 (ninS (Ne.symm ne_b112_b120) (ninS (Ne.symm ne_b119_0_b120) nin0))
  replace F_value_b120 := F_value_b120.keep K129 (ninS (Ne.symm ne_b112_b120) (ninS (Ne.symm ne_b119_0_b120) nin0))
  replace E_b125 := E_b125.keep K129
  replace F_name_b125 := F_name_b125.keep K129 (ninS (Ne.symm ne_b112_b125) (ninS (Ne.symm ne_b119_0_b125) nin0))
  replace F_value_b125 := F_value_b125.keep K129 (ninS (Ne.symm ne_b112_b125) (ninS (Ne.symm ne_b119_0_b125) nin0))
  replace OZ := OZ.keep K129 (allS g_b112 (allS g_b119_0 all0))
  replace K0 := K0.trans K129 (allS (Or.inr sz_b112) (allS (Or.inr sz_b119_0) all0))
  replace Z0 := Nat.le_trans Z0 K129.1
  replace E_b112 := E_b112'
  have F_modCount_b112 : Fld Z T129.heap b112 c4_ "modCount" "I" (.int (3 : Int32)) := F_modCount_b112'
  have F_elementData_b112 := F_elementData_b112'
  have F_size_b112 := F_size_b112'
  have V_b119_0 := V_b119_0'
  refine oB_ (tF_ T129 (mkF m 149 (lA17_ p0 p1 p2 p3 p4 p5 (3 : Int32) xq x1 x2 x3 w0 w1 w2 b112) [])) (fun t k => ?_) ?_
  · refine XS.pop X129.here hx rfl (hb hby at_148) rfl rfl ?_
    exact k
  refine oNw X129 H (hV hw 122) (hV hw 123) (hV hw 124) rfl at_149 fun T130 h130 b130 X130 e130 E130 u130 E_b130 D130 => ?_
  have g_b130 := Nat.le_trans Z0 u130
  have sz_b130 := Nat.le_trans K0.1 u130
  have ne_b112_b130 := oNl E_b112.lt u130
  have ne_b115_b130 := oNl E_b115.lt u130
  have ne_b120_b130 := oNl E_b120.lt u130
  have ne_b125_b130 := oNl E_b125.lt u130
  have ne_b119_0_b130 := oNl V_b119_0.lt u130
  replace hk := Nat.le_trans hk E130.1
  replace E_b112 := E_b112.ext E130
  replace E_b115 := E_b115.ext E130
  replace F_name_b115 := F_name_b115.ext E130
  replace F_value_b115 := F_value_b115.ext E130
  replace E_b120 := E_b120.ext E130
  replace F_name_b120 := F_name_b120.ext E130
  replace F_value_b120 := F_value_b120.ext E130
  replace E_b125 := E_b125.ext E130
  replace F_name_b125 := F_name_b125.ext E130
  replace F_value_b125 := F_value_b125.ext E130
  replace F_modCount_b112 := F_modCount_b112.ext E130
  replace F_elementData_b112 := F_elementData_b112.ext E130
  replace F_size_b112 := F_size_b112.ext E130
  replace V_b119_0 := V_b119_0.ext E130
  replace OZ := OZ.ext E130
  replace K0 := K0.ext E130
  replace Z0 := Nat.le_trans Z0 E130.1
  have F_members_b130 : Fld Z h130 b130 c7_ "members" c19_ .null := D130 (Or.inr (hV hw 130)) (ty := (.object c12_)) dE_
  refine oG X130 H r0_152_153 155 (lA17_ p0 p1 p2 p3 p4 p5 (3 : Int32) xq x1 x2 x3 w0 w1 w2 b112) [(.ref b112), (.ref b130), (.ref b130)] ?_
  refine ocI X130 H (wb18_ hw) (rm20_45 hw Z0 g_b130 E_b130 F_members_b130) e130 1 b130 [(.ref b112)] [(.ref b130)] pd_15 at_155 fun T132 _ _ X132 hQ132 => ?_
  obtain ⟨rfl, N132, K132, E_b130', F_members_b130'⟩ := hQ132
  replace N0 := Fr.app N0 N132
  replace hk := Nat.le_trans hk K132.1
  replace E_b112 := E_b112.keep K132
  replace E_b115 := E_b115.keep K132
  replace F_name_b115 := F_name_b115.keep K132 (ninS ne_b115_b130 nin0)
  replace F_value_b115 := F_value_b115.keep K132 (ninS ne_b115_b130 nin0)
  replace E_b120 := E_b120.keep K132
  replace F_name_b120 := F_name_b120.keep K132 (ninS ne_b120_b130 nin0)
  replace F_value_b120 := F_value_b120.keep K132 (ninS ne_b120_b130 nin0)
  replace E_b125 := E_b125.keep K132
  replace F_name_b125 := F_name_b125.keep K132 (ninS ne_b125_b130 nin0)
  replace F_value_b125 := F_value_b125.keep K132 (ninS ne_b125_b130 nin0)
  replace F_modCount_b112 := F_modCount_b112.keep K132 (ninS ne_b112_b130 nin0)
  replace F_elementData_b112 := F_elementData_b112.keep K132 (ninS ne_b112_b130 nin0)
  replace F_size_b112 := F_size_b112.keep K132 (ninS ne_b112_b130 nin0)
  replace V_b119_0 := V_b119_0.keep K132 (ninS ne_b119_0_b130 nin0)
  replace OZ := OZ.keep K132 (allS g_b130 all0)
  replace K0 := K0.trans K132 (allS (Or.inr sz_b130) all0)
  replace Z0 := Nat.le_trans Z0 K132.1
  replace E_b130 := E_b130'
  have F_members_b130 := F_members_b130'
  refine oG X132 H r0_158_158 160 (lA17_ p0 p1 p2 p3 p4 p5 (3 : Int32) xq x1 x2 x3 w0 w1 w2 b112) [(.ref xq), (.ref b130)] ?_
  by_cases hc135 : v1 = vq
  · skip
    show own_Go p e below _ (T132.setTop (mkF m 160 (lA17_ p0 p1 p2 p3 p4 p5 (3 : Int32) xq x1 x2 x3 w0 w1 w2 b112) [(.ref xq), (.ref b130)]))
    by_cases hc138 : v2 = vq
    · skip
      show own_Go p e below _ (T132.setTop (mkF m 160 (lA17_ p0 p1 p2 p3 p4 p5 (3 : Int32) xq x1 x2 x3 w0 w1 w2 b112) [(.ref xq), (.ref b130)]))
      by_cases hc141 : v3 = vq
      · skip
        show own_Go p e below _ (T132.setTop (mkF m 160 (lA17_ p0 p1 p2 p3 p4 p5 (3 : Int32) xq x1 x2 x3 w0 w1 w2 b112) [(.ref xq), (.ref b130)]))
        refine ocV X132 H (wb23_ hw) (rm21_82 hw Z0 F_members_b130 (T_xq.keep K0) (V_em.keep K0 nin0) E_b112 F_modCount_b112 F_elementData_b112 F_size_b112 V_b119_0 E_b115 F_name_b115 F_value_b115 E_b120 F_name_b120 F_value_b120 E_b125 F_name_b125 F_value_b125 (T_x1.keep K0) (E_w0.keep K0) (T_x2.keep K0) (E_w1.keep K0) (T_x3.keep K0) (E_w2.keep K0) S_DEFAULTCAPACITY_EMPTY_ELEMENTDATA S_COMPACT_STRINGS OZ (by decide : ¬ ((0 : Int32) = (3 : Int32))) (by decide : (0 : Int32) < (3 : Int32)) hc135 hcs (Ne.symm ne_xq_x1) (by decide : ¬ ((1 : Int32) = (3 : Int32))) (by decide : (1 : Int32) < (3 : Int32)) hc138 (Ne.symm ne_xq_x2) (by decide : ¬ ((2 : Int32) = (3 : Int32))) (by decide : (2 : Int32) < (3 : Int32)) hc141 (Ne.symm ne_xq_x3) (by decide : (3 : Int32) = (3 : Int32))) (rfl : T132.heap = _) 0 b130 E_b130 [(.ref xq)] [] pd_16 at_160 fun T143 _ _ X143 hQ143 => ?_
        obtain ⟨b143_0, b143_1, k143_2, rfl, N143, K143, E_b143_0', _, F_elementData_b143_0', F_size_b143_0', V_b143_1', _⟩ := hQ143
        replace N0 := Fr.app N0 N143
        replace hk := Nat.le_trans hk K143.1
        replace OZ := OZ.keep K143 all0
        replace K0 := K0.trans K143 all0
        replace Z0 := Nat.le_trans Z0 K143.1
        have E_b143_0 := E_b143_0'
        have F_elementData_b143_0 := F_elementData_b143_0'
        have F_size_b143_0 := F_size_b143_0'
        have V_b143_1 := V_b143_1'
        refine oG X143 H r0_163_163 165 (lA18_ p0 p1 p2 p3 p4 p5 (3 : Int32) xq x1 x2 x3 w0 w1 w2 b112 b143_0) [] ?_
        refine oNw X143 H (hV hw 47) (hV hw 48) (hV hw 49) rfl at_165 fun T144 h144 b144 X144 e144 E144 u144 E_b144 D144 => ?_
        have g_b144 := Nat.le_trans Z0 u144
        have sz_b144 := Nat.le_trans K0.1 u144
        have ne_b143_0_b144 := oNl E_b143_0.lt u144
        have ne_b143_1_b144 := oNl V_b143_1.lt u144
        replace hk := Nat.le_trans hk E144.1
        replace E_b143_0 := E_b143_0.ext E144
        replace F_elementData_b143_0 := F_elementData_b143_0.ext E144
        replace F_size_b143_0 := F_size_b143_0.ext E144
        replace V_b143_1 := V_b143_1.ext E144
        replace OZ := OZ.ext E144
        replace K0 := K0.ext E144
        replace Z0 := Nat.le_trans Z0 E144.1
        have F_modCount_b144 : Fld Z h144 b144 c4_ "modCount" "I" oZ := D144 (Or.inl (hV hw 67)) (ty := .int) dE_
        have F_elementData_b144 : Fld Z h144 b144 c0_ "elementData" c3_ .null := D144 (Or.inl (hV hw 70)) (ty := (.array (.object c1_))) dE_
        have F_size_b144 : Fld Z h144 b144 c0_ "size" "I" oZ := D144 (Or.inl (hV hw 99)) (ty := .int) dE_
        refine oG X144 H r0_168_168 169 (lA18_ p0 p1 p2 p3 p4 p5 (3 : Int32) xq x1 x2 x3 w0 w1 w2 b112 b143_0) [(.ref b144), (.ref b144)] ?_
        refine ocI X144 H (wb16_ hw) (rm10_43 hw Z0 g_b144 E_b144 F_modCount_b144 F_elementData_b144 F_size_b144 S_DEFAULTCAPACITY_EMPTY_ELEMENTDATA OZ) e144 1 b144 [] [(.ref b144)] pd_3 at_169 fun T146 _ _ X146 hQ146 => ?_
        obtain ⟨rfl, N146, K146, E_b144', F_modCount_b144', F_elementData_b144', F_size_b144'⟩ := hQ146
        replace N0 := Fr.app N0 N146
        replace hk := Nat.le_trans hk K146.1
        replace E_b143_0 := E_b143_0.keep K146
        replace F_elementData_b143_0 := F_elementData_b143_0.keep K146 (ninS ne_b143_0_b144 nin0)
        replace F_size_b143_0 := F_size_b143_0.keep K146 (ninS ne_b143_0_b144 nin0)
        replace V_b143_1 := V_b143_1.keep K146 (ninS ne_b143_1_b144 nin0)
        replace OZ := OZ.keep K146 (allS g_b144 all0)
        replace K0 := K0.trans K146 (allS (Or.inr sz_b144) all0)
        replace Z0 := Nat.le_trans Z0 K146.1
        replace E_b144 := E_b144'
        have F_modCount_b144 := F_modCount_b144'
        have F_elementData_b144 := F_elementData_b144'
        have F_size_b144 := F_size_b144'
        refine oIN X146 H r0_172_174 at_176 (lA10_ p0 p1 p2 p3 p4 p5 (3 : Int32) xq x1 x2 x3 w0 w1 w2 b112 b143_0 b144) [] rfl ((if0 _ _).trans (tlt (by decide : (0 : Int32) < (3 : Int32))).2.2.2) ?_
        refine oH X146 H r0_179_181 183 [(.ref x1), (.ref xq)] ?_
        refine ocV X146 H (wb37_ hw) (rm28_eq hw Z0 OZ S_COMPACT_STRINGS hcs (T_xq.keep K0) (T_x1.keep K0) ne_xq_x1 hc135.symm) (rfl : T146.heap = _) 0 xq (own_Str.exa (T_xq.keep K0)) [(.ref x1)] [] pd_10 at_183 fun T148 _ _ X148 hQ148 => ?_
        obtain ⟨rfl, N148, e148⟩ := hQ148
        replace N0 := Fr.app N0 N148
        refine oIN X148 H oD0 at_186 (lA10_ p0 p1 p2 p3 p4 p5 (3 : Int32) xq x1 x2 x3 w0 w1 w2 b112 b143_0 b144) [] rfl ((if0 _ _).trans (feq (by decide : ¬ ((1 : Int32) = (0 : Int32)))).1) ?_
        refine oH X148 H r0_189_191 193 [(.ref w0), (.ref b144)] ?_
        refine ocV X148 H (wb38_ hw) (rm15_62 hw Z0 g_b144 E_b144 F_modCount_b144 F_elementData_b144 F_size_b144 (E_w0.keep K0) (V_em.keep K0 nin0) S_DEFAULTCAPACITY_EMPTY_ELEMENTDATA OZ) e148 0 b144 E_b144 [(.ref w0)] [] pd_10 at_193 fun T150 _ _ X150 hQ150 => ?_
        obtain ⟨b150_0, k150_1, rfl, N150, K150, E_b144', F_modCount_b144', F_elementData_b144', F_size_b144', V_b150_0', Ov_k150_1', sz_b150_0'⟩ := hQ150
        replace N0 := Fr.app N0 N150
        have g_b150_0 := Nat.le_trans Z0 sz_b150_0'
        have sz_b150_0 := Nat.le_trans K0.1 sz_b150_0'
        have ne_b143_0_b150_0 := oNl E_b143_0.lt sz_b150_0'
        have ne_b143_1_b150_0 := oNl V_b143_1.lt sz_b150_0'
        replace hk := Nat.le_trans hk K150.1
        replace E_b143_0 := E_b143_0.keep K150
        replace F_elementData_b143_0 := F_elementData_b143_0.keep K150 (ninS ne_b143_0_b144 nin0)
        replace F_size_b143_0 := F_size_b143_0.keep K150 (ninS ne_b143_0_b144 nin0)
        replace V_b143_1 := V_b143_1.keep K150 (ninS ne_b143_1_b144 nin0)
        replace OZ := OZ.keep K150 (allS g_b144 all0)
        replace K0 := K0.trans K150 (allS (Or.inr sz_b144) all0)
        replace Z0 := Nat.le_trans Z0 K150.1
        replace E_b144 := E_b144'
        have F_modCount_b144 : Fld Z T150.heap b144 c4_ "modCount" "I" (.int (1 : Int32)) := F_modCount_b144'
        have F_elementData_b144 := F_elementData_b144'
        have F_size_b144 := F_size_b144'
        have V_b150_0 := V_b150_0'
        have Ov_k150_1 := Ov_k150_1'
        refine oB_ (tF_ T150 (mkF m 197 (lA10_ p0 p1 p2 p3 p4 p5 (3 : Int32) xq x1 x2 x3 w0 w1 w2 b112 b143_0 b144) [])) (fun t k => ?_) ?_
        · refine XS.pop X150.here hx rfl (hb hby at_196) rfl rfl ?_
          exact k
        refine oCN X150 H r0_197_199 at_200 (lA10_ p0 p1 p2 p3 p4 p5 (3 : Int32) xq x1 x2 x3 w0 w1 w2 b112 b143_0 b144) [] rfl (tlt (by decide : (1 : Int32) < (3 : Int32))).2.2.2 ?_
        refine oH X150 H r0_203_205 207 [(.ref x2), (.ref xq)] ?_
        refine ocV X150 H (wb37_ hw) (rm28_eq hw Z0 OZ S_COMPACT_STRINGS hcs (T_xq.keep K0) (T_x2.keep K0) ne_xq_x2 hc138.symm) (rfl : T150.heap = _) 0 xq (own_Str.exa (T_xq.keep K0)) [(.ref x2)] [] pd_10 at_207 fun T152 _ _ X152 hQ152 => ?_
        obtain ⟨rfl, N152, e152⟩ := hQ152
        replace N0 := Fr.app N0 N152
        refine oIN X152 H oD0 at_210 (lA10_ p0 p1 p2 p3 p4 p5 (3 : Int32) xq x1 x2 x3 w0 w1 w2 b112 b143_0 b144) [] rfl ((if0 _ _).trans (feq (by decide : ¬ ((1 : Int32) = (0 : Int32)))).1) ?_
        refine oH X152 H r0_213_215 217 [(.ref w1), (.ref b144)] ?_
        refine ocV X152 H (wb38_ hw) (rm15_70 hw Z0 g_b144 E_b144 F_modCount_b144 F_elementData_b144 F_size_b144 (E_w1.keep K0) g_b150_0 V_b150_0 Ov_k150_1) e152 0 b144 E_b144 [(.ref w1)] [] pd_10 at_217 fun T154 _ _ X154 hQ154 => ?_
        obtain ⟨rfl, N154, K154, E_b144', F_modCount_b144', F_elementData_b144', F_size_b144', V_b150_0'⟩ := hQ154
        replace N0 := Fr.app N0 N154
        replace hk := Nat.le_trans hk K154.1
        replace E_b143_0 := E_b143_0.keep K154
        replace F_elementData_b143_0 := F_elementData_b143_0.keep K154 (ninS ne_b143_0_b144 (ninS ne_b143_0_b150_0 nin0))
        replace F_size_b143_0 := F_size_b143_0.keep K154 (ninS ne_b143_0_b144 (ninS ne_b143_0_b150_0 nin0))
        replace V_b143_1 := V_b143_1.keep K154 (ninS ne_b143_1_b144 (ninS ne_b143_1_b150_0 nin0))
        replace OZ := OZ.keep K154 (allS g_b144 (allS g_b150_0 all0))
        replace K0 := K0.trans K154 (allS (Or.inr sz_b144) (allS (Or.inr sz_b150_0) all0))
        replace Z0 := Nat.le_trans Z0 K154.1
        replace E_b144 := E_b144'
        have F_modCount_b144 : Fld Z T154.heap b144 c4_ "modCount" "I" (.int (2 : Int32)) := F_modCount_b144'
        have F_elementData_b144 := F_elementData_b144'
        have F_size_b144 := F_size_b144'
        have V_b150_0 := V_b150_0'
        refine oB_ (tF_ T154 (mkF m 221 (lA10_ p0 p1 p2 p3 p4 p5 (3 : Int32) xq x1 x2 x3 w0 w1 w2 b112 b143_0 b144) [])) (fun t k => ?_) ?_
        · refine XS.pop X154.here hx rfl (hb hby at_220) rfl rfl ?_
          exact k
        refine oCN X154 H r0_221_223 at_224 (lA10_ p0 p1 p2 p3 p4 p5 (3 : Int32) xq x1 x2 x3 w0 w1 w2 b112 b143_0 b144) [] rfl (tlt (by decide : (2 : Int32) < (3 : Int32))).2.2.2 ?_
        refine oH X154 H r0_227_229 231 [(.ref x3), (.ref xq)] ?_
        refine ocV X154 H (wb37_ hw) (rm28_eq hw Z0 OZ S_COMPACT_STRINGS hcs (T_xq.keep K0) (T_x3.keep K0) ne_xq_x3 hc141.symm) (rfl : T154.heap = _) 0 xq (own_Str.exa (T_xq.keep K0)) [(.ref x3)] [] pd_10 at_231 fun T156 _ _ X156 hQ156 => ?_
        obtain ⟨rfl, N156, e156⟩ := hQ156
        replace N0 := Fr.app N0 N156
        refine oIN X156 H oD0 at_234 (lA10_ p0 p1 p2 p3 p4 p5 (3 : Int32) xq x1 x2 x3 w0 w1 w2 b112 b143_0 b144) [] rfl ((if0 _ _).trans (feq (by decide : ¬ ((1 : Int32) = (0 : Int32)))).1) ?_
        refine oH X156 H r0_237_239 241 [(.ref w2), (.ref b144)] ?_
        refine ocV X156 H (wb38_ hw) (rm15_81 hw Z0 g_b144 E_b144 F_modCount_b144 F_elementData_b144 F_size_b144 (E_w2.keep K0) g_b150_0 V_b150_0 Ov_k150_1) e156 0 b144 E_b144 [(.ref w2)] [] pd_10 at_241 fun T158 _ _ X158 hQ158 => ?_
        obtain ⟨rfl, N158, K158, E_b144', _, F_elementData_b144', F_size_b144', V_b150_0'⟩ := hQ158
        replace N0 := Fr.app N0 N158
        replace hk := Nat.le_trans hk K158.1
        replace E_b143_0 := E_b143_0.keep K158
        replace F_elementData_b143_0 := F_elementData_b143_0.keep K158 (ninS ne_b143_0_b144 (ninS ne_b143_0_b150_0 nin0))
        replace F_size_b143_0 := F_size_b143_0.keep K158 (ninS ne_b143_0_b144 (ninS ne_b143_0_b150_0 nin0))
        replace V_b143_1 := V_b143_1.keep K158 (ninS ne_b143_1_b144 (ninS ne_b143_1_b150_0 nin0))
        replace Z0 := Nat.le_trans Z0 K158.1
        replace E_b144 := E_b144'
        have F_elementData_b144 := F_elementData_b144'
        have F_size_b144 := F_size_b144'
        have V_b150_0 := V_b150_0'
        refine oB_ (tF_ T158 (mkF m 245 (lA10_ p0 p1 p2 p3 p4 p5 (3 : Int32) xq x1 x2 x3 w0 w1 w2 b112 b143_0 b144) [])) (fun t k => ?_) ?_
        · refine XS.pop X158.here hx rfl (hb hby at_244) rfl rfl ?_
          exact k
        exact own_D3 (h0 := h0) p0 p1 p2 p3 p4 p5 (3 : Int32) xq x1 x2 x3 w0 w1 w2 b112 b143_0 b144 b143_1 b150_0 k143_2 k150_1 w0 w1 w2 (X158.mono (cells' := 50) (slots' := 1000) dE_ dE_) hx hZ hw hby hml hown hSi Bret Blk (rfl : T158.heap = _) N0 Z0 E_b143_0 F_elementData_b143_0 F_size_b143_0 E_b144 F_elementData_b144 F_size_b144 V_b143_1 V_b150_0 hk
      show own_Go p e below _ (T132.setTop (mkF m 160 (lA17_ p0 p1 p2 p3 p4 p5 (3 : Int32) xq x1 x2 x3 w0 w1 w2 b112) [(.ref xq), (.ref b130)]))
      refine ocV X132 H (wb23_ hw) (rm21_83 hw Z0 F_members_b130 (T_xq.keep K0) (V_em.keep K0 nin0) E_b112 F_modCount_b112 F_elementData_b112 F_size_b112 V_b119_0 E_b115 F_name_b115 F_value_b115 E_b120 F_name_b120 F_value_b120 E_b125 F_name_b125 (T_x1.keep K0) (E_w0.keep K0) (T_x2.keep K0) (E_w1.keep K0) (T_x3.keep K0) S_DEFAULTCAPACITY_EMPTY_ELEMENTDATA S_COMPACT_STRINGS OZ (by decide : ¬ ((0 : Int32) = (3 : Int32))) (by decide : (0 : Int32) < (3 : Int32)) hc135 hcs (Ne.symm ne_xq_x1) (by decide : ¬ ((1 : Int32) = (3 : Int32))) (by decide : (1 : Int32) < (3 : Int32)) hc138 (Ne.symm ne_xq_x2) (by decide : ¬ ((2 : Int32) = (3 : Int32))) (by decide : (2 : Int32) < (3 : Int32)) hc141 (Ne.symm ne_xq_x3) (by decide : (3 : Int32) = (3 : Int32))) (rfl : T132.heap = _) 0 b130 E_b130 [(.ref xq)] [] pd_16 at_160 fun T160 _ _ X160 hQ160 => ?_
      obtain ⟨b160_0, b160_1, k160_2, rfl, N160, K160, E_b160_0', _, F_elementData_b160_0', F_size_b160_0', V_b160_1', _⟩ := hQ160
      replace N0 := Fr.app N0 N160
      replace hk := Nat.le_trans hk K160.1
      replace OZ := OZ.keep K160 all0
      replace K0 := K0.trans K160 all0
      replace Z0 := Nat.le_trans Z0 K160.1
      have E_b160_0 := E_b160_0'
      have F_elementData_b160_0 := F_elementData_b160_0'
      have F_size_b160_0 := F_size_b160_0'
      have V_b160_1 := V_b160_1'
      refine oG X160 H r0_163_163 165 (lA18_ p0 p1 p2 p3 p4 p5 (3 : Int32) xq x1 x2 x3 w0 w1 w2 b112 b160_0) [] ?_
      refine oNw X160 H (hV hw 47) (hV hw 48) (hV hw 49) rfl at_165 fun T161 h161 b161 X161 e161 E161 u161 E_b161 D161 => ?_
      have g_b161 := Nat.le_trans Z0 u161
      have sz_b161 := Nat.le_trans K0.1 u161
      have ne_b160_0_b161 := oNl E_b160_0.lt u161
      have ne_b160_1_b161 := oNl V_b160_1.lt u161
      replace hk := Nat.le_trans hk E161.1
      replace E_b160_0 := E_b160_0.ext E161
      replace F_elementData_b160_0 := F_elementData_b160_0.ext E161
      replace F_size_b160_0 := F_size_b160_0.ext E161
      replace V_b160_1 := V_b160_1.ext E161
      replace OZ := OZ.ext E161
      replace K0 := K0.ext E161
      replace Z0 := Nat.le_trans Z0 E161.1
      have F_modCount_b161 : Fld Z h161 b161 c4_ "modCount" "I" oZ := D161 (Or.inl (hV hw 67)) (ty := .int) dE_
      have F_elementData_b161 : Fld Z h161 b161 c0_ "elementData" c3_ .null := D161 (Or.inl (hV hw 70)) (ty := (.array (.object c1_))) dE_
      have F_size_b161 : Fld Z h161 b161 c0_ "size" "I" oZ := D161 (Or.inl (hV hw 99)) (ty := .int) dE_
      refine oG X161 H r0_168_168 169 (lA18_ p0 p1 p2 p3 p4 p5 (3 : Int32) xq x1 x2 x3 w0 w1 w2 b112 b160_0) [(.ref b161), (.ref b161)] ?_
      refine ocI X161 H (wb16_ hw) (rm10_43 hw Z0 g_b161 E_b161 F_modCount_b161 F_elementData_b161 F_size_b161 S_DEFAULTCAPACITY_EMPTY_ELEMENTDATA OZ) e161 1 b161 [] [(.ref b161)] pd_3 at_169 fun T163 _ _ X163 hQ163 => ?_
      obtain ⟨rfl, N163, K163, E_b161', F_modCount_b161', F_elementData_b161', F_size_b161'⟩ := hQ163
      replace N0 := Fr.app N0 N163
      replace hk := Nat.le_trans hk K163.1
      replace E_b160_0 := E_b160_0.keep K163
      replace F_elementData_b160_0 := F_elementData_b160_0.keep K163 (ninS ne_b160_0_b161 nin0)
      replace F_size_b160_0 := F_size_b160_0.keep K163 (ninS ne_b160_0_b161 nin0)
      replace V_b160_1 := V_b160_1.keep K163 (ninS ne_b160_1_b161 nin0)
      replace OZ := OZ.keep K163 (allS g_b161 all0)
      replace K0 := K0.trans K163 (allS (Or.inr sz_b161) all0)
      replace Z0 := Nat.le_trans Z0 K163.1
      replace E_b161 := E_b161'
      have F_modCount_b161 := F_modCount_b161'
      have F_elementData_b161 := F_elementData_b161'
      have F_size_b161 := F_size_b161'
      refine oIN X163 H r0_172_174 at_176 (lA10_ p0 p1 p2 p3 p4 p5 (3 : Int32) xq x1 x2 x3 w0 w1 w2 b112 b160_0 b161) [] rfl ((if0 _ _).trans (tlt (by decide : (0 : Int32) < (3 : Int32))).2.2.2) ?_
      refine oH X163 H r0_179_181 183 [(.ref x1), (.ref xq)] ?_
      refine ocV X163 H (wb37_ hw) (rm28_eq hw Z0 OZ S_COMPACT_STRINGS hcs (T_xq.keep K0) (T_x1.keep K0) ne_xq_x1 hc135.symm) (rfl : T163.heap = _) 0 xq (own_Str.exa (T_xq.keep K0)) [(.ref x1)] [] pd_10 at_183 fun T165 _ _ X165 hQ165 => ?_
      obtain ⟨rfl, N165, e165⟩ := hQ165
      replace N0 := Fr.app N0 N165
      refine oIN X165 H oD0 at_186 (lA10_ p0 p1 p2 p3 p4 p5 (3 : Int32) xq x1 x2 x3 w0 w1 w2 b112 b160_0 b161) [] rfl ((if0 _ _).trans (feq (by decide : ¬ ((1 : Int32) = (0 : Int32)))).1) ?_
      refine oH X165 H r0_189_191 193 [(.ref w0), (.ref b161)] ?_
      refine ocV X165 H (wb38_ hw) (rm15_62 hw Z0 g_b161 E_b161 F_modCount_b161 F_elementData_b161 F_size_b161 (E_w0.keep K0) (V_em.keep K0 nin0) S_DEFAULTCAPACITY_EMPTY_ELEMENTDATA OZ) e165 0 b161 E_b161 [(.ref w0)] [] pd_10 at_193 fun T167 _ _ X167 hQ167 => ?_
      obtain ⟨b167_0, k167_1, rfl, N167, K167, E_b161', F_modCount_b161', F_elementData_b161', F_size_b161', V_b167_0', Ov_k167_1', sz_b167_0'⟩ := hQ167
      replace N0 := Fr.app N0 N167
      have g_b167_0 := Nat.le_trans Z0 sz_b167_0'
      have sz_b167_0 := Nat.le_trans K0.1 sz_b167_0'
      have ne_b160_0_b167_0 := oNl E_b160_0.lt sz_b167_0'
      have ne_b160_1_b167_0 := oNl V_b160_1.lt sz_b167_0'
      replace hk := Nat.le_trans hk K167.1
      replace E_b160_0 := E_b160_0.keep K167
      replace F_elementData_b160_0 := F_elementData_b160_0.keep K167 (ninS ne_b160_0_b161 nin0)
      replace F_size_b160_0 := F_size_b160_0.keep K167 (ninS ne_b160_0_b161 nin0)
      replace V_b160_1 := V_b160_1.keep K167 (ninS ne_b160_1_b161 nin0)
      replace OZ := OZ.keep K167 (allS g_b161 all0)
      replace K0 := K0.trans K167 (allS (Or.inr sz_b161) all0)
      replace Z0 := Nat.le_trans Z0 K167.1
      replace E_b161 := E_b161'
      have F_modCount_b161 : Fld Z T167.heap b161 c4_ "modCount" "I" (.int (1 : Int32)) := F_modCount_b161'
      have F_elementData_b161 := F_elementData_b161'
      have F_size_b161 := F_size_b161'
      have V_b167_0 := V_b167_0'
      have Ov_k167_1 := Ov_k167_1'
      refine oB_ (tF_ T167 (mkF m 197 (lA10_ p0 p1 p2 p3 p4 p5 (3 : Int32) xq x1 x2 x3 w0 w1 w2 b112 b160_0 b161) [])) (fun t k => ?_) ?_
      · refine XS.pop X167.here hx rfl (hb hby at_196) rfl rfl ?_
        exact k
      refine oCN X167 H r0_197_199 at_200 (lA10_ p0 p1 p2 p3 p4 p5 (3 : Int32) xq x1 x2 x3 w0 w1 w2 b112 b160_0 b161) [] rfl (tlt (by decide : (1 : Int32) < (3 : Int32))).2.2.2 ?_
      refine oH X167 H r0_203_205 207 [(.ref x2), (.ref xq)] ?_
      refine ocV X167 H (wb37_ hw) (rm28_eq hw Z0 OZ S_COMPACT_STRINGS hcs (T_xq.keep K0) (T_x2.keep K0) ne_xq_x2 hc138.symm) (rfl : T167.heap = _) 0 xq (own_Str.exa (T_xq.keep K0)) [(.ref x2)] [] pd_10 at_207 fun T169 _ _ X169 hQ169 => ?_
      obtain ⟨rfl, N169, e169⟩ := hQ169
      replace N0 := Fr.app N0 N169
      refine oIN X169 H oD0 at_210 (lA10_ p0 p1 p2 p3 p4 p5 (3 : Int32) xq x1 x2 x3 w0 w1 w2 b112 b160_0 b161) [] rfl ((if0 _ _).trans (feq (by decide : ¬ ((1 : Int32) = (0 : Int32)))).1) ?_
      refine oH X169 H r0_213_215 217 [(.ref w1), (.ref b161)] ?_
      refine ocV X169 H (wb38_ hw) (rm15_70 hw Z0 g_b161 E_b161 F_modCount_b161 F_elementData_b161 F_size_b161 (E_w1.keep K0) g_b167_0 V_b167_0 Ov_k167_1) e169 0 b161 E_b161 [(.ref w1)] [] pd_10 at_217 fun T171 _ _ X171 hQ171 => ?_
      obtain ⟨rfl, N171, K171, E_b161', _, F_elementData_b161', F_size_b161', V_b167_0'⟩ := hQ171
      replace N0 := Fr.app N0 N171
      replace hk := Nat.le_trans hk K171.1
      replace E_b160_0 := E_b160_0.keep K171
      replace F_elementData_b160_0 := F_elementData_b160_0.keep K171 (ninS ne_b160_0_b161 (ninS ne_b160_0_b167_0 nin0))
      replace F_size_b160_0 := F_size_b160_0.keep K171 (ninS ne_b160_0_b161 (ninS ne_b160_0_b167_0 nin0))
      replace V_b160_1 := V_b160_1.keep K171 (ninS ne_b160_1_b161 (ninS ne_b160_1_b167_0 nin0))
      replace OZ := OZ.keep K171 (allS g_b161 (allS g_b167_0 all0))
      replace K0 := K0.trans K171 (allS (Or.inr sz_b161) (allS (Or.inr sz_b167_0) all0))
      replace Z0 := Nat.le_trans Z0 K171.1
      replace E_b161 := E_b161'
      have F_elementData_b161 := F_elementData_b161'
      have F_size_b161 := F_size_b161'
      have V_b167_0 := V_b167_0'
      refine oB_ (tF_ T171 (mkF m 221 (lA10_ p0 p1 p2 p3 p4 p5 (3 : Int32) xq x1 x2 x3 w0 w1 w2 b112 b160_0 b161) [])) (fun t k => ?_) ?_
      · refine XS.pop X171.here hx rfl (hb hby at_220) rfl rfl ?_
        exact k
      refine oCN X171 H r0_221_223 at_224 (lA10_ p0 p1 p2 p3 p4 p5 (3 : Int32) xq x1 x2 x3 w0 w1 w2 b112 b160_0 b161) [] rfl (tlt (by decide : (2 : Int32) < (3 : Int32))).2.2.2 ?_
      refine oH X171 H r0_227_229 231 [(.ref x3), (.ref xq)] ?_
      refine ocV X171 H (wb37_ hw) (rm28_ne hw Z0 OZ S_COMPACT_STRINGS hcs (T_xq.keep K0) (T_x3.keep K0) ne_xq_x3 (fun q => hc141 q.symm)) (rfl : T171.heap = _) 0 xq (own_Str.exa (T_xq.keep K0)) [(.ref x3)] [] pd_10 at_231 fun T173 _ _ X173 hQ173 => ?_
      obtain ⟨rfl, N173, e173⟩ := hQ173
      replace N0 := Fr.app N0 N173
      refine oIY X173 H oD0 at_234 245 (lA10_ p0 p1 p2 p3 p4 p5 (3 : Int32) xq x1 x2 x3 w0 w1 w2 b112 b160_0 b161) [] rfl ((if0 _ _).trans (teq (by decide : (0 : Int32) = (0 : Int32))).1) ?_
      exact own_D2 (h0 := h0) p0 p1 p2 p3 p4 p5 (3 : Int32) xq x1 x2 x3 w0 w1 w2 b112 b160_0 b161 b160_1 b167_0 k160_2 k167_1 w0 w1 (X173.mono (cells' := 50) (slots' := 1000) dE_ dE_) hx hZ hw hby hml hown hSi Bret Blk e173 N0 Z0 E_b160_0 F_elementData_b160_0 F_size_b160_0 E_b161 F_elementData_b161 F_size_b161 V_b160_1 V_b167_0 hk
    show own_Go p e below _ (T132.setTop (mkF m 160 (lA17_ p0 p1 p2 p3 p4 p5 (3 : Int32) xq x1 x2 x3 w0 w1 w2 b112) [(.ref xq), (.ref b130)]))
    by_cases hc176 : v3 = vq
    · skip
      show own_Go p e below _ (T132.setTop (mkF m 160 (lA17_ p0 p1 p2 p3 p4 p5 (3 : Int32) xq x1 x2 x3 w0 w1 w2 b112) [(.ref xq), (.ref b130)]))
      refine ocV X132 H (wb23_ hw) (rm21_84 hw Z0 F_members_b130 (T_xq.keep K0) (V_em.keep K0 nin0) E_b112 F_modCount_b112 F_elementData_b112 F_size_b112 V_b119_0 E_b115 F_name_b115 F_value_b115 E_b120 F_name_b120 E_b125 F_name_b125 F_value_b125 (T_x1.keep K0) (E_w0.keep K0) (T_x2.keep K0) (T_x3.keep K0) (E_w2.keep K0) S_DEFAULTCAPACITY_EMPTY_ELEMENTDATA S_COMPACT_STRINGS OZ (by decide : ¬ ((0 : Int32) = (3 : Int32))) (by decide : (0 : Int32) < (3 : Int32)) hc135 hcs (Ne.symm ne_xq_x1) (by decide : ¬ ((1 : Int32) = (3 : Int32))) (by decide : (1 : Int32) < (3 : Int32)) hc138 (Ne.symm ne_xq_x2) (by decide : ¬ ((2 : Int32) = (3 : Int32))) (by decide : (2 : Int32) < (3 : Int32)) hc176 (Ne.symm ne_xq_x3) (by decide : (3 : Int32) = (3 : Int32))) (rfl : T132.heap = _) 0 b130 E_b130 [(.ref xq)] [] pd_16 at_160 fun T178 _ _ X178 hQ178 => ?_
      obtain ⟨b178_0, b178_1, k178_2, rfl, N178, K178, E_b178_0', _, F_elementData_b178_0', F_size_b178_0', V_b178_1', _⟩ := hQ178
      replace N0 := Fr.app N0 N178
      replace hk := Nat.le_trans hk K178.1
      replace OZ := OZ.keep K178 all0
      replace K0 := K0.trans K178 all0
      replace Z0 := Nat.le_trans Z0 K178.1
      have E_b178_0 := E_b178_0'
      have F_elementData_b178_0 := F_elementData_b178_0'
      have F_size_b178_0 := F_size_b178_0'
      have V_b178_1 := V_b178_1'
      refine oG X178 H r0_163_163 165 (lA18_ p0 p1 p2 p3 p4 p5 (3 : Int32) xq x1 x2 x3 w0 w1 w2 b112 b178_0) [] ?_
      refine oNw X178 H (hV hw 47) (hV hw 48) (hV hw 49) rfl at_165 fun T179 h179 b179 X179 e179 E179 u179 E_b179 D179 => ?_
      have g_b179 := Nat.le_trans Z0 u179
      have sz_b179 := Nat.le_trans K0.1 u179
      have ne_b178_0_b179 := oNl E_b178_0.lt u179
      have ne_b178_1_b179 := oNl V_b178_1.lt u179
      replace hk := Nat.le_trans hk E179.1
      replace E_b178_0 := E_b178_0.ext E179
      replace F_elementData_b178_0 := F_elementData_b178_0.ext E179
      replace F_size_b178_0 := F_size_b178_0.ext E179
      replace V_b178_1 := V_b178_1.ext E179
      replace OZ := OZ.ext E179
      replace K0 := K0.ext E179
      replace Z0 := Nat.le_trans Z0 E179.1
      have F_modCount_b179 : Fld Z h179 b179 c4_ "modCount" "I" oZ := D179 (Or.inl (hV hw 67)) (ty := .int) dE_
      have F_elementData_b179 : Fld Z h179 b179 c0_ "elementData" c3_ .null := D179 (Or.inl (hV hw 70)) (ty := (.array (.object c1_))) dE_
      have F_size_b179 : Fld Z h179 b179 c0_ "size" "I" oZ := D179 (Or.inl (hV hw 99)) (ty := .int) dE_
      refine oG X179 H r0_168_168 169 (lA18_ p0 p1 p2 p3 p4 p5 (3 : Int32) xq x1 x2 x3 w0 w1 w2 b112 b178_0) [(.ref b179), (.ref b179)] ?_
      refine ocI X179 H (wb16_ hw) (rm10_43 hw Z0 g_b179 E_b179 F_modCount_b179 F_elementData_b179 F_size_b179 S_DEFAULTCAPACITY_EMPTY_ELEMENTDATA OZ) e179 1 b179 [] [(.ref b179)] pd_3 at_169 fun T181 _ _ X181 hQ181 => ?_
      obtain ⟨rfl, N181, K181, E_b179', F_modCount_b179', F_elementData_b179', F_size_b179'⟩ := hQ181
      replace N0 := Fr.app N0 N181
      replace hk := Nat.le_trans hk K181.1
      replace E_b178_0 := E_b178_0.keep K181
      replace F_elementData_b178_0 := F_elementData_b178_0.keep K181 (ninS ne_b178_0_b179 nin0)
      replace F_size_b178_0 := F_size_b178_0.keep K181 (ninS ne_b178_0_b179 nin0)
      replace V_b178_1 := V_b178_1.keep K181 (ninS ne_b178_1_b179 nin0)
      replace OZ := OZ.keep K181 (allS g_b179 all0)
      replace K0 := K0.trans K181 (allS (Or.inr sz_b179) all0)
      replace Z0 := Nat.le_trans Z0 K181.1
      replace E_b179 := E_b179'
      have F_modCount_b179 := F_modCount_b179'
      have F_elementData_b179 := F_elementData_b179'
      have F_size_b179 := F_size_b179'
      refine oIN X181 H r0_172_174 at_176 (lA10_ p0 p1 p2 p3 p4 p5 (3 : Int32) xq x1 x2 x3 w0 w1 w2 b112 b178_0 b179) [] rfl ((if0 _ _).trans (tlt (by decide : (0 : Int32) < (3 : Int32))).2.2.2) ?_
      refine oH X181 H r0_179_181 183 [(.ref x1), (.ref xq)] ?_
      refine ocV X181 H (wb37_ hw) (rm28_eq hw Z0 OZ S_COMPACT_STRINGS hcs (T_xq.keep K0) (T_x1.keep K0) ne_xq_x1 hc135.symm) (rfl : T181.heap = _) 0 xq (own_Str.exa (T_xq.keep K0)) [(.ref x1)] [] pd_10 at_183 fun T183 _ _ X183 hQ183 => ?_
      obtain ⟨rfl, N183, e183⟩ := hQ183
      replace N0 := Fr.app N0 N183
      refine oIN X183 H oD0 at_186 (lA10_ p0 p1 p2 p3 p4 p5 (3 : Int32) xq x1 x2 x3 w0 w1 w2 b112 b178_0 b179) [] rfl ((if0 _ _).trans (feq (by decide : ¬ ((1 : Int32) = (0 : Int32)))).1) ?_
      refine oH X183 H r0_189_191 193 [(.ref w0), (.ref b179)] ?_
      refine ocV X183 H (wb38_ hw) (rm15_62 hw Z0 g_b179 E_b179 F_modCount_b179 F_elementData_b179 F_size_b179 (E_w0.keep K0) (V_em.keep K0 nin0) S_DEFAULTCAPACITY_EMPTY_ELEMENTDATA OZ) e183 0 b179 E_b179 [(.ref w0)] [] pd_10 at_193 fun T185 _ _ X185 hQ185 => ?_
      obtain ⟨b185_0, k185_1, rfl, N185, K185, E_b179', F_modCount_b179', F_elementData_b179', F_size_b179', V_b185_0', Ov_k185_1', sz_b185_0'⟩ := hQ185
      replace N0 := Fr.app N0 N185
      have g_b185_0 := Nat.le_trans Z0 sz_b185_0'
      have ne_b178_0_b185_0 := oNl E_b178_0.lt sz_b185_0'
      have ne_b178_1_b185_0 := oNl V_b178_1.lt sz_b185_0'
      replace hk := Nat.le_trans hk K185.1
      replace E_b178_0 := E_b178_0.keep K185
      replace F_elementData_b178_0 := F_elementData_b178_0.keep K185 (ninS ne_b178_0_b179 nin0)
      replace F_size_b178_0 := F_size_b178_0.keep K185 (ninS ne_b178_0_b179 nin0)
      replace V_b178_1 := V_b178_1.keep K185 (ninS ne_b178_1_b179 nin0)
      replace OZ := OZ.keep K185 (allS g_b179 all0)
      replace K0 := K0.trans K185 (allS (Or.inr sz_b179) all0)
      replace Z0 := Nat.le_trans Z0 K185.1
      replace E_b179 := E_b179'
      have F_modCount_b179 : Fld Z T185.heap b179 c4_ "modCount" "I" (.int (1 : Int32)) := F_modCount_b179'
      have F_elementData_b179 := F_elementData_b179'
      have F_size_b179 := F_size_b179'
      have V_b185_0 := V_b185_0'
      have Ov_k185_1 := Ov_k185_1'
      refine oB_ (tF_ T185 (mkF m 197 (lA10_ p0 p1 p2 p3 p4 p5 (3 : Int32) xq x1 x2 x3 w0 w1 w2 b112 b178_0 b179) [])) (fun t k => ?_) ?_
      · refine XS.pop X185.here hx rfl (hb hby at_196) rfl rfl ?_
        exact k
      refine oCN X185 H r0_197_199 at_200 (lA10_ p0 p1 p2 p3 p4 p5 (3 : Int32) xq x1 x2 x3 w0 w1 w2 b112 b178_0 b179) [] rfl (tlt (by decide : (1 : Int32) < (3 : Int32))).2.2.2 ?_
      refine oH X185 H r0_203_205 207 [(.ref x2), (.ref xq)] ?_
      refine ocV X185 H (wb37_ hw) (rm28_ne hw Z0 OZ S_COMPACT_STRINGS hcs (T_xq.keep K0) (T_x2.keep K0) ne_xq_x2 (fun q => hc138 q.symm)) (rfl : T185.heap = _) 0 xq (own_Str.exa (T_xq.keep K0)) [(.ref x2)] [] pd_10 at_207 fun T187 _ _ X187 hQ187 => ?_
      obtain ⟨rfl, N187, e187⟩ := hQ187
      replace N0 := Fr.app N0 N187
      refine oIY X187 H oD0 at_210 221 (lA10_ p0 p1 p2 p3 p4 p5 (3 : Int32) xq x1 x2 x3 w0 w1 w2 b112 b178_0 b179) [] rfl ((if0 _ _).trans (teq (by decide : (0 : Int32) = (0 : Int32))).1) ?_
      refine oCN X187 H r0_221_223 at_224 (lA10_ p0 p1 p2 p3 p4 p5 (3 : Int32) xq x1 x2 x3 w0 w1 w2 b112 b178_0 b179) [] rfl (tlt (by decide : (2 : Int32) < (3 : Int32))).2.2.2 ?_
      refine oH X187 H r0_227_229 231 [(.ref x3), (.ref xq)] ?_
      refine ocV X187 H (wb37_ hw) (rm28_eq hw Z0 OZ S_COMPACT_STRINGS hcs (T_xq.keep K0) (T_x3.keep K0) ne_xq_x3 hc176.symm) e187 0 xq (own_Str.exa (T_xq.keep K0)) [(.ref x3)] [] pd_10 at_231 fun T189 _ _ X189 hQ189 => ?_
      obtain ⟨rfl, N189, e189⟩ := hQ189
      replace N0 := Fr.app N0 N189
      refine oIN X189 H oD0 at_234 (lA10_ p0 p1 p2 p3 p4 p5 (3 : Int32) xq x1 x2 x3 w0 w1 w2 b112 b178_0 b179) [] rfl ((if0 _ _).trans (feq (by decide : ¬ ((1 : Int32) = (0 : Int32)))).1) ?_
      refine oH X189 H r0_237_239 241 [(.ref w2), (.ref b179)] ?_
      refine ocV X189 H (wb38_ hw) (rm15_70 hw Z0 g_b179 E_b179 F_modCount_b179 F_elementData_b179 F_size_b179 (E_w2.keep K0) g_b185_0 V_b185_0 Ov_k185_1) e189 0 b179 E_b179 [(.ref w2)] [] pd_10 at_241 fun T191 _ _ X191 hQ191 => ?_
      obtain ⟨rfl, N191, K191, E_b179', _, F_elementData_b179', F_size_b179', V_b185_0'⟩ := hQ191
      replace N0 := Fr.app N0 N191
      replace hk := Nat.le_trans hk K191.1
      replace E_b178_0 := E_b178_0.keep K191
      replace F_elementData_b178_0 := F_elementData_b178_0.keep K191 (ninS ne_b178_0_b179 (ninS ne_b178_0_b185_0 nin0))
      replace F_size_b178_0 := F_size_b178_0.keep K191 (ninS ne_b178_0_b179 (ninS ne_b178_0_b185_0 nin0))
      replace V_b178_1 := V_b178_1.keep K191 (ninS ne_b178_1_b179 (ninS ne_b178_1_b185_0 nin0))
      replace Z0 := Nat.le_trans Z0 K191.1
      replace E_b179 := E_b179'
      have F_elementData_b179 := F_elementData_b179'
      have F_size_b179 := F_size_b179'
      have V_b185_0 := V_b185_0'
      refine oB_ (tF_ T191 (mkF m 245 (lA10_ p0 p1 p2 p3 p4 p5 (3 : Int32) xq x1 x2 x3 w0 w1 w2 b112 b178_0 b179) [])) (fun t k => ?_) ?_
      · refine XS.pop X191.here hx rfl (hb hby at_244) rfl rfl ?_
        exact k
      exact own_D2 (h0 := h0) p0 p1 p2 p3 p4 p5 (3 : Int32) xq x1 x2 x3 w0 w1 w2 b112 b178_0 b179 b178_1 b185_0 k178_2 k185_1 w0 w2 (X191.mono (cells' := 50) (slots' := 1000) dE_ dE_) hx hZ hw hby hml hown hSi Bret Blk (rfl : T191.heap = _) N0 Z0 E_b178_0 F_elementData_b178_0 F_size_b178_0 E_b179 F_elementData_b179 F_size_b179 V_b178_1 V_b185_0 hk
    show own_Go p e below _ (T132.setTop (mkF m 160 (lA17_ p0 p1 p2 p3 p4 p5 (3 : Int32) xq x1 x2 x3 w0 w1 w2 b112) [(.ref xq), (.ref b130)]))
    refine ocV X132 H (wb23_ hw) (rm21_85 hw Z0 F_members_b130 (T_xq.keep K0) (V_em.keep K0 nin0) E_b112 F_modCount_b112 F_elementData_b112 F_size_b112 V_b119_0 E_b115 F_name_b115 F_value_b115 E_b120 F_name_b120 E_b125 F_name_b125 (T_x1.keep K0) (E_w0.keep K0) (T_x2.keep K0) (T_x3.keep K0) S_DEFAULTCAPACITY_EMPTY_ELEMENTDATA S_COMPACT_STRINGS OZ (by decide : ¬ ((0 : Int32) = (3 : Int32))) (by decide : (0 : Int32) < (3 : Int32)) hc135 hcs (Ne.symm ne_xq_x1) (by decide : ¬ ((1 : Int32) = (3 : Int32))) (by decide : (1 : Int32) < (3 : Int32)) hc138 (Ne.symm ne_xq_x2) (by decide : ¬ ((2 : Int32) = (3 : Int32))) (by decide : (2 : Int32) < (3 : Int32)) hc176 (Ne.symm ne_xq_x3) (by decide : (3 : Int32) = (3 : Int32))) (rfl : T132.heap = _) 0 b130 E_b130 [(.ref xq)] [] pd_16 at_160 fun T193 _ _ X193 hQ193 => ?_
    obtain ⟨b193_0, b193_1, k193_2, rfl, N193, K193, E_b193_0', _, F_elementData_b193_0', F_size_b193_0', V_b193_1', _⟩ := hQ193
    replace N0 := Fr.app N0 N193
    replace hk := Nat.le_trans hk K193.1
    replace OZ := OZ.keep K193 all0
    replace K0 := K0.trans K193 all0
    replace Z0 := Nat.le_trans Z0 K193.1
    have E_b193_0 := E_b193_0'
    have F_elementData_b193_0 := F_elementData_b193_0'
    have F_size_b193_0 := F_size_b193_0'
    have V_b193_1 := V_b193_1'
    refine oG X193 H r0_163_163 165 (lA18_ p0 p1 p2 p3 p4 p5 (3 : Int32) xq x1 x2 x3 w0 w1 w2 b112 b193_0) [] ?_
    refine oNw X193 H (hV hw 47) (hV hw 48) (hV hw 49) rfl at_165 fun T194 h194 b194 X194 e194 E194 u194 E_b194 D194 => ?_
    have g_b194 := Nat.le_trans Z0 u194
    have sz_b194 := Nat.le_trans K0.1 u194
    have ne_b193_0_b194 := oNl E_b193_0.lt u194
    have ne_b193_1_b194 := oNl V_b193_1.lt u194
    replace hk := Nat.le_trans hk E194.1
    replace E_b193_0 := E_b193_0.ext E194
    replace F_elementData_b193_0 := F_elementData_b193_0.ext E194
    replace F_size_b193_0 := F_size_b193_0.ext E194
    replace V_b193_1 := V_b193_1.ext E194
    replace OZ := OZ.ext E194
    replace K0 := K0.ext E194
    replace Z0 := Nat.le_trans Z0 E194.1
    have F_modCount_b194 : Fld Z h194 b194 c4_ "modCount" "I" oZ := D194 (Or.inl (hV hw 67)) (ty := .int) dE_
    have F_elementData_b194 : Fld Z h194 b194 c0_ "elementData" c3_ .null := D194 (Or.inl (hV hw 70)) (ty := (.array (.object c1_))) dE_
    have F_size_b194 : Fld Z h194 b194 c0_ "size" "I" oZ := D194 (Or.inl (hV hw 99)) (ty := .int) dE_
    refine oG X194 H r0_168_168 169 (lA18_ p0 p1 p2 p3 p4 p5 (3 : Int32) xq x1 x2 x3 w0 w1 w2 b112 b193_0) [(.ref b194), (.ref b194)] ?_
    refine ocI X194 H (wb16_ hw) (rm10_43 hw Z0 g_b194 E_b194 F_modCount_b194 F_elementData_b194 F_size_b194 S_DEFAULTCAPACITY_EMPTY_ELEMENTDATA OZ) e194 1 b194 [] [(.ref b194)] pd_3 at_169 fun T196 _ _ X196 hQ196 => ?_
    obtain ⟨rfl, N196, K196, E_b194', F_modCount_b194', F_elementData_b194', F_size_b194'⟩ := hQ196
    replace N0 := Fr.app N0 N196
    replace hk := Nat.le_trans hk K196.1
    replace E_b193_0 := E_b193_0.keep K196
    replace F_elementData_b193_0 := F_elementData_b193_0.keep K196 (ninS ne_b193_0_b194 nin0)
    replace F_size_b193_0 := F_size_b193_0.keep K196 (ninS ne_b193_0_b194 nin0)
    replace V_b193_1 := V_b193_1.keep K196 (ninS ne_b193_1_b194 nin0)
    replace OZ := OZ.keep K196 (allS g_b194 all0)
    replace K0 := K0.trans K196 (allS (Or.inr sz_b194) all0)
    replace Z0 := Nat.le_trans Z0 K196.1
    replace E_b194 := E_b194'
    have F_modCount_b194 := F_modCount_b194'
    have F_elementData_b194 := F_elementData_b194'
    have F_size_b194 := F_size_b194'
    refine oIN X196 H r0_172_174 at_176 (lA10_ p0 p1 p2 p3 p4 p5 (3 : Int32) xq x1 x2 x3 w0 w1 w2 b112 b193_0 b194) [] rfl ((if0 _ _).trans (tlt (by decide : (0 : Int32) < (3 : Int32))).2.2.2) ?_
    refine oH X196 H r0_179_181 183 [(.ref x1), (.ref xq)] ?_
    refine ocV X196 H (wb37_ hw) (rm28_eq hw Z0 OZ S_COMPACT_STRINGS hcs (T_xq.keep K0) (T_x1.keep K0) ne_xq_x1 hc135.symm) (rfl : T196.heap = _) 0 xq (own_Str.exa (T_xq.keep K0)) [(.ref x1)] [] pd_10 at_183 fun T198 _ _ X198 hQ198 => ?_
    obtain ⟨rfl, N198, e198⟩ := hQ198
    replace N0 := Fr.app N0 N198
    refine oIN X198 H oD0 at_186 (lA10_ p0 p1 p2 p3 p4 p5 (3 : Int32) xq x1 x2 x3 w0 w1 w2 b112 b193_0 b194) [] rfl ((if0 _ _).trans (feq (by decide : ¬ ((1 : Int32) = (0 : Int32)))).1) ?_
    refine oH X198 H r0_189_191 193 [(.ref w0), (.ref b194)] ?_
    refine ocV X198 H (wb38_ hw) (rm15_62 hw Z0 g_b194 E_b194 F_modCount_b194 F_elementData_b194 F_size_b194 (E_w0.keep K0) (V_em.keep K0 nin0) S_DEFAULTCAPACITY_EMPTY_ELEMENTDATA OZ) e198 0 b194 E_b194 [(.ref w0)] [] pd_10 at_193 fun T200 _ _ X200 hQ200 => ?_
    obtain ⟨b200_0, k200_1, rfl, N200, K200, E_b194', _, F_elementData_b194', F_size_b194', V_b200_0', _⟩ := hQ200
    replace N0 := Fr.app N0 N200
    replace hk := Nat.le_trans hk K200.1
    replace E_b193_0 := E_b193_0.keep K200
    replace F_elementData_b193_0 := F_elementData_b193_0.keep K200 (ninS ne_b193_0_b194 nin0)
    replace F_size_b193_0 := F_size_b193_0.keep K200 (ninS ne_b193_0_b194 nin0)
    replace V_b193_1 := V_b193_1.keep K200 (ninS ne_b193_1_b194 nin0)
    replace OZ := OZ.keep K200 (allS g_b194 all0)
    replace K0 := K0.trans K200 (allS (Or.inr sz_b194) all0)
    replace Z0 := Nat.le_trans Z0 K200.1
    replace E_b194 := E_b194'
    have F_elementData_b194 := F_elementData_b194'
    have F_size_b194 := F_size_b194'
    have V_b200_0 := V_b200_0'
    refine oB_ (tF_ T200 (mkF m 197 (lA10_ p0 p1 p2 p3 p4 p5 (3 : Int32) xq x1 x2 x3 w0 w1 w2 b112 b193_0 b194) [])) (fun t k => ?_) ?_
    · refine XS.pop X200.here hx rfl (hb hby at_196) rfl rfl ?_
      exact k
    refine oCN X200 H r0_197_199 at_200 (lA10_ p0 p1 p2 p3 p4 p5 (3 : Int32) xq x1 x2 x3 w0 w1 w2 b112 b193_0 b194) [] rfl (tlt (by decide : (1 : Int32) < (3 : Int32))).2.2.2 ?_
    refine oH X200 H r0_203_205 207 [(.ref x2), (.ref xq)] ?_
    refine ocV X200 H (wb37_ hw) (rm28_ne hw Z0 OZ S_COMPACT_STRINGS hcs (T_xq.keep K0) (T_x2.keep K0) ne_xq_x2 (fun q => hc138 q.symm)) (rfl : T200.heap = _) 0 xq (own_Str.exa (T_xq.keep K0)) [(.ref x2)] [] pd_10 at_207 fun T202 _ _ X202 hQ202 => ?_
    obtain ⟨rfl, N202, e202⟩ := hQ202
    replace N0 := Fr.app N0 N202
    refine oIY X202 H oD0 at_210 221 (lA10_ p0 p1 p2 p3 p4 p5 (3 : Int32) xq x1 x2 x3 w0 w1 w2 b112 b193_0 b194) [] rfl ((if0 _ _).trans (teq (by decide : (0 : Int32) = (0 : Int32))).1) ?_
    refine oCN X202 H r0_221_223 at_224 (lA10_ p0 p1 p2 p3 p4 p5 (3 : Int32) xq x1 x2 x3 w0 w1 w2 b112 b193_0 b194) [] rfl (tlt (by decide : (2 : Int32) < (3 : Int32))).2.2.2 ?_
    refine oH X202 H r0_227_229 231 [(.ref x3), (.ref xq)] ?_
    refine ocV X202 H (wb37_ hw) (rm28_ne hw Z0 OZ S_COMPACT_STRINGS hcs (T_xq.keep K0) (T_x3.keep K0) ne_xq_x3 (fun q => hc176 q.symm)) e202 0 xq (own_Str.exa (T_xq.keep K0)) [(.ref x3)] [] pd_10 at_231 fun T204 _ _ X204 hQ204 => ?_
    obtain ⟨rfl, N204, e204⟩ := hQ204
    replace N0 := Fr.app N0 N204
    refine oIY X204 H oD0 at_234 245 (lA10_ p0 p1 p2 p3 p4 p5 (3 : Int32) xq x1 x2 x3 w0 w1 w2 b112 b193_0 b194) [] rfl ((if0 _ _).trans (teq (by decide : (0 : Int32) = (0 : Int32))).1) ?_
    exact own_D1 (h0 := h0) p0 p1 p2 p3 p4 p5 (3 : Int32) xq x1 x2 x3 w0 w1 w2 b112 b193_0 b194 b193_1 b200_0 k193_2 k200_1 w0 (X204.mono (cells' := 50) (slots' := 1000) dE_ dE_) hx hZ hw hby hml hown hSi Bret Blk e204 N0 Z0 E_b193_0 F_elementData_b193_0 F_size_b193_0 E_b194 F_elementData_b194 F_size_b194 V_b193_1 V_b200_0 hk
  show own_Go p e below _ (T132.setTop (mkF m 160 (lA17_ p0 p1 p2 p3 p4 p5 (3 : Int32) xq x1 x2 x3 w0 w1 w2 b112) [(.ref xq), (.ref b130)]))
  by_cases hc207 : v2 = vq
  · skip
    show own_Go p e below _ (T132.setTop (mkF m 160 (lA17_ p0 p1 p2 p3 p4 p5 (3 : Int32) xq x1 x2 x3 w0 w1 w2 b112) [(.ref xq), (.ref b130)]))
    by_cases hc210 : v3 = vq
    · skip
      show own_Go p e below _ (T132.setTop (mkF m 160 (lA17_ p0 p1 p2 p3 p4 p5 (3 : Int32) xq x1 x2 x3 w0 w1 w2 b112) [(.ref xq), (.ref b130)]))
      refine ocV X132 H (wb23_ hw) (rm21_86 hw Z0 F_members_b130 (T_xq.keep K0) (V_em.keep K0 nin0) E_b112 F_modCount_b112 F_elementData_b112 F_size_b112 V_b119_0 E_b115 F_name_b115 E_b120 F_name_b120 F_value_b120 E_b125 F_name_b125 F_value_b125 (T_x1.keep K0) (T_x2.keep K0) (E_w1.keep K0) (T_x3.keep K0) (E_w2.keep K0) S_DEFAULTCAPACITY_EMPTY_ELEMENTDATA S_COMPACT_STRINGS OZ (by decide : ¬ ((0 : Int32) = (3 : Int32))) (by decide : (0 : Int32) < (3 : Int32)) hc135 hcs (Ne.symm ne_xq_x1) (by decide : ¬ ((1 : Int32) = (3 : Int32))) (by decide : (1 : Int32) < (3 : Int32)) hc207 (Ne.symm ne_xq_x2) (by decide : ¬ ((2 : Int32) = (3 : Int32))) (by decide : (2 : Int32) < (3 : Int32)) hc210 (Ne.symm ne_xq_x3) (by decide : (3 : Int32) = (3 : Int32))) (rfl : T132.heap = _) 0 b130 E_b130 [(.ref xq)] [] pd_16 at_160 fun T212 _ _ X212 hQ212 => ?_
      obtain ⟨b212_0, b212_1, k212_2, rfl, N212, K212, E_b212_0', _, F_elementData_b212_0', F_size_b212_0', V_b212_1', _⟩ := hQ212
      replace N0 := Fr.app N0 N212
      replace hk := Nat.le_trans hk K212.1
      replace OZ := OZ.keep K212 all0
      replace K0 := K0.trans K212 all0
      replace Z0 := Nat.le_trans Z0 K212.1
      have E_b212_0 := E_b212_0'
      have F_elementData_b212_0 := F_elementData_b212_0'
      have F_size_b212_0 := F_size_b212_0'
      have V_b212_1 := V_b212_1'
      refine oG X212 H r0_163_163 165 (lA18_ p0 p1 p2 p3 p4 p5 (3 : Int32) xq x1 x2 x3 w0 w1 w2 b112 b212_0) [] ?_
      refine oNw X212 H (hV hw 47) (hV hw 48) (hV hw 49) rfl at_165 fun T213 h213 b213 X213 e213 E213 u213 E_b213 D213 => ?_
      have g_b213 := Nat.le_trans Z0 u213
      have sz_b213 := Nat.le_trans K0.1 u213
      have ne_b212_0_b213 := oNl E_b212_0.lt u213
      have ne_b212_1_b213 := oNl V_b212_1.lt u213
      replace hk := Nat.le_trans hk E213.1
      replace E_b212_0 := E_b212_0.ext E213
      replace F_elementData_b212_0 := F_elementData_b212_0.ext E213
      replace F_size_b212_0 := F_size_b212_0.ext E213
      replace V_b212_1 := V_b212_1.ext E213
      replace OZ := OZ.ext E213
      replace K0 := K0.ext E213
      replace Z0 := Nat.le_trans Z0 E213.1
      have F_modCount_b213 : Fld Z h213 b213 c4_ "modCount" "I" oZ := D213 (Or.inl (hV hw 67)) (ty := .int) dE_
      have F_elementData_b213 : Fld Z h213 b213 c0_ "elementData" c3_ .null := D213 (Or.inl (hV hw 70)) (ty := (.array (.object c1_))) dE_
      have F_size_b213 : Fld Z h213 b213 c0_ "size" "I" oZ := D213 (Or.inl (hV hw 99)) (ty := .int) dE_
      refine oG X213 H r0_168_168 169 (lA18_ p0 p1 p2 p3 p4 p5 (3 : Int32) xq x1 x2 x3 w0 w1 w2 b112 b212_0) [(.ref b213), (.ref b213)] ?_
      refine ocI X213 H (wb16_ hw) (rm10_43 hw Z0 g_b213 E_b213 F_modCount_b213 F_elementData_b213 F_size_b213 S_DEFAULTCAPACITY_EMPTY_ELEMENTDATA OZ) e213 1 b213 [] [(.ref b213)] pd_3 at_169 fun T215 _ _ X215 hQ215 => ?_
      obtain ⟨rfl, N215, K215, E_b213', F_modCount_b213', F_elementData_b213', F_size_b213'⟩ := hQ215
      replace N0 := Fr.app N0 N215
      replace hk := Nat.le_trans hk K215.1
      replace E_b212_0 := E_b212_0.keep K215
      replace F_elementData_b212_0 := F_elementData_b212_0.keep K215 (ninS ne_b212_0_b213 nin0)
      replace F_size_b212_0 := F_size_b212_0.keep K215 (ninS ne_b212_0_b213 nin0)
      replace V_b212_1 := V_b212_1.keep K215 (ninS ne_b212_1_b213 nin0)
      replace OZ := OZ.keep K215 (allS g_b213 all0)
      replace K0 := K0.trans K215 (allS (Or.inr sz_b213) all0)
      replace Z0 := Nat.le_trans Z0 K215.1
      replace E_b213 := E_b213'
      have F_modCount_b213 := F_modCount_b213'
      have F_elementData_b213 := F_elementData_b213'
      have F_size_b213 := F_size_b213'
      refine oIN X215 H r0_172_174 at_176 (lA10_ p0 p1 p2 p3 p4 p5 (3 : Int32) xq x1 x2 x3 w0 w1 w2 b112 b212_0 b213) [] rfl ((if0 _ _).trans (tlt (by decide : (0 : Int32) < (3 : Int32))).2.2.2) ?_
      refine oH X215 H r0_179_181 183 [(.ref x1), (.ref xq)] ?_
      refine ocV X215 H (wb37_ hw) (rm28_ne hw Z0 OZ S_COMPACT_STRINGS hcs (T_xq.keep K0) (T_x1.keep K0) ne_xq_x1 (fun q => hc135 q.symm)) (rfl : T215.heap = _) 0 xq (own_Str.exa (T_xq.keep K0)) [(.ref x1)] [] pd_10 at_183 fun T217 _ _ X217 hQ217 => ?_
      obtain ⟨rfl, N217, e217⟩ := hQ217
      replace N0 := Fr.app N0 N217
      refine oIY X217 H oD0 at_186 197 (lA10_ p0 p1 p2 p3 p4 p5 (3 : Int32) xq x1 x2 x3 w0 w1 w2 b112 b212_0 b213) [] rfl ((if0 _ _).trans (teq (by decide : (0 : Int32) = (0 : Int32))).1) ?_
      refine oCN X217 H r0_197_199 at_200 (lA10_ p0 p1 p2 p3 p4 p5 (3 : Int32) xq x1 x2 x3 w0 w1 w2 b112 b212_0 b213) [] rfl (tlt (by decide : (1 : Int32) < (3 : Int32))).2.2.2 ?_
      refine oH X217 H r0_203_205 207 [(.ref x2), (.ref xq)] ?_
      refine ocV X217 H (wb37_ hw) (rm28_eq hw Z0 OZ S_COMPACT_STRINGS hcs (T_xq.keep K0) (T_x2.keep K0) ne_xq_x2 hc207.symm) e217 0 xq (own_Str.exa (T_xq.keep K0)) [(.ref x2)] [] pd_10 at_207 fun T219 _ _ X219 hQ219 => ?_
      obtain ⟨rfl, N219, e219⟩ := hQ219
      replace N0 := Fr.app N0 N219
      refine oIN X219 H oD0 at_210 (lA10_ p0 p1 p2 p3 p4 p5 (3 : Int32) xq x1 x2 x3 w0 w1 w2 b112 b212_0 b213) [] rfl ((if0 _ _).trans (feq (by decide : ¬ ((1 : Int32) = (0 : Int32)))).1) ?_
      refine oH X219 H r0_213_215 217 [(.ref w1), (.ref b213)] ?_
      refine ocV X219 H (wb38_ hw) (rm15_62 hw Z0 g_b213 E_b213 F_modCount_b213 F_elementData_b213 F_size_b213 (E_w1.keep K0) (V_em.keep K0 nin0) S_DEFAULTCAPACITY_EMPTY_ELEMENTDATA OZ) e219 0 b213 E_b213 [(.ref w1)] [] pd_10 at_217 fun T221 _ _ X221 hQ221 => ?_
      obtain ⟨b221_0, k221_1, rfl, N221, K221, E_b213', F_modCount_b213', F_elementData_b213', F_size_b213', V_b221_0', Ov_k221_1', sz_b221_0'⟩ := hQ221
      replace N0 := Fr.app N0 N221
      have g_b221_0 := Nat.le_trans Z0 sz_b221_0'
      have ne_b212_0_b221_0 := oNl E_b212_0.lt sz_b221_0'
      have ne_b212_1_b221_0 := oNl V_b212_1.lt sz_b221_0'
      replace hk := Nat.le_trans hk K221.1
      replace E_b212_0 := E_b212_0.keep K221
      replace F_elementData_b212_0 := F_elementData_b212_0.keep K221 (ninS ne_b212_0_b213 nin0)
      replace F_size_b212_0 := F_size_b212_0.keep K221 (ninS ne_b212_0_b213 nin0)
      replace V_b212_1 := V_b212_1.keep K221 (ninS ne_b212_1_b213 nin0)
      replace OZ := OZ.keep K221 (allS g_b213 all0)
      replace K0 := K0.trans K221 (allS (Or.inr sz_b213) all0)
      replace Z0 := Nat.le_trans Z0 K221.1
      replace E_b213 := E_b213'
      have F_modCount_b213 : Fld Z T221.heap b213 c4_ "modCount" "I" (.int (1 : Int32)) := F_modCount_b213'
      have F_elementData_b213 := F_elementData_b213'
      have F_size_b213 := F_size_b213'
      have V_b221_0 := V_b221_0'
      have Ov_k221_1 := Ov_k221_1'
      refine oB_ (tF_ T221 (mkF m 221 (lA10_ p0 p1 p2 p3 p4 p5 (3 : Int32) xq x1 x2 x3 w0 w1 w2 b112 b212_0 b213) [])) (fun t k => ?_) ?_
      · refine XS.pop X221.here hx rfl (hb hby at_220) rfl rfl ?_
        exact k
      refine oCN X221 H r0_221_223 at_224 (lA10_ p0 p1 p2 p3 p4 p5 (3 : Int32) xq x1 x2 x3 w0 w1 w2 b112 b212_0 b213) [] rfl (tlt (by decide : (2 : Int32) < (3 : Int32))).2.2.2 ?_
      refine oH X221 H r0_227_229 231 [(.ref x3), (.ref xq)] ?_
      refine ocV X221 H (wb37_ hw) (rm28_eq hw Z0 OZ S_COMPACT_STRINGS hcs (T_xq.keep K0) (T_x3.keep K0) ne_xq_x3 hc210.symm) (rfl : T221.heap = _) 0 xq (own_Str.exa (T_xq.keep K0)) [(.ref x3)] [] pd_10 at_231 fun T223 _ _ X223 hQ223 => ?_
      obtain ⟨rfl, N223, e223⟩ := hQ223
      replace N0 := Fr.app N0 N223
      refine oIN X223 H oD0 at_234 (lA10_ p0 p1 p2 p3 p4 p5 (3 : Int32) xq x1 x2 x3 w0 w1 w2 b112 b212_0 b213) [] rfl ((if0 _ _).trans (feq (by decide : ¬ ((1 : Int32) = (0 : Int32)))).1) ?_
      refine oH X223 H r0_237_239 241 [(.ref w2), (.ref b213)] ?_
      refine ocV X223 H (wb38_ hw) (rm15_70 hw Z0 g_b213 E_b213 F_modCount_b213 F_elementData_b213 F_size_b213 (E_w2.keep K0) g_b221_0 V_b221_0 Ov_k221_1) e223 0 b213 E_b213 [(.ref w2)] [] pd_10 at_241 fun T225 _ _ X225 hQ225 => ?_
      obtain ⟨rfl, N225, K225, E_b213', _, F_elementData_b213', F_size_b213', V_b221_0'⟩ := hQ225
      replace N0 := Fr.app N0 N225
      replace hk := Nat.le_trans hk K225.1
      replace E_b212_0 := E_b212_0.keep K225
      replace F_elementData_b212_0 := F_elementData_b212_0.keep K225 (ninS ne_b212_0_b213 (ninS ne_b212_0_b221_0 nin0))
      replace F_size_b212_0 := F_size_b212_0.keep K225 (ninS ne_b212_0_b213 (ninS ne_b212_0_b221_0 nin0))
      replace V_b212_1 := V_b212_1.keep K225 (ninS ne_b212_1_b213 (ninS ne_b212_1_b221_0 nin0))
      replace Z0 := Nat.le_trans Z0 K225.1
      replace E_b213 := E_b213'
      have F_elementData_b213 := F_elementData_b213'
      have F_size_b213 := F_size_b213'
      have V_b221_0 := V_b221_0'
      refine oB_ (tF_ T225 (mkF m 245 (lA10_ p0 p1 p2 p3 p4 p5 (3 : Int32) xq x1 x2 x3 w0 w1 w2 b112 b212_0 b213) [])) (fun t k => ?_) ?_
      · refine XS.pop X225.here hx rfl (hb hby at_244) rfl rfl ?_
        exact k
      exact own_D2 (h0 := h0) p0 p1 p2 p3 p4 p5 (3 : Int32) xq x1 x2 x3 w0 w1 w2 b112 b212_0 b213 b212_1 b221_0 k212_2 k221_1 w1 w2 (X225.mono (cells' := 50) (slots' := 1000) dE_ dE_) hx hZ hw hby hml hown hSi Bret Blk (rfl : T225.heap = _) N0 Z0 E_b212_0 F_elementData_b212_0 F_size_b212_0 E_b213 F_elementData_b213 F_size_b213 V_b212_1 V_b221_0 hk
    show own_Go p e below _ (T132.setTop (mkF m 160 (lA17_ p0 p1 p2 p3 p4 p5 (3 : Int32) xq x1 x2 x3 w0 w1 w2 b112) [(.ref xq), (.ref b130)]))
    refine ocV X132 H (wb23_ hw) (rm21_87 hw Z0 F_members_b130 (T_xq.keep K0) (V_em.keep K0 nin0) E_b112 F_modCount_b112 F_elementData_b112 F_size_b112 V_b119_0 E_b115 F_name_b115 E_b120 F_name_b120 F_value_b120 E_b125 F_name_b125 (T_x1.keep K0) (T_x2.keep K0) (E_w1.keep K0) (T_x3.keep K0) S_DEFAULTCAPACITY_EMPTY_ELEMENTDATA S_COMPACT_STRINGS OZ (by decide : ¬ ((0 : Int32) = (3 : Int32))) (by decide : (0 : Int32) < (3 : Int32)) hc135 hcs (Ne.symm ne_xq_x1) (by decide : ¬ ((1 : Int32) = (3 : Int32))) (by decide : (1 : Int32) < (3 : Int32)) hc207 (Ne.symm ne_xq_x2) (by decide : ¬ ((2 : Int32) = (3 : Int32))) (by decide : (2 : Int32) < (3 : Int32)) hc210 (Ne.symm ne_xq_x3) (by decide : (3 : Int32) = (3 : Int32))) (rfl : T132.heap = _) 0 b130 E_b130 [(.ref xq)] [] pd_16 at_160 fun T227 _ _ X227 hQ227 => ?_
    obtain ⟨b227_0, b227_1, k227_2, rfl, N227, K227, E_b227_0', _, F_elementData_b227_0', F_size_b227_0', V_b227_1', _⟩ := hQ227
    replace N0 := Fr.app N0 N227
    replace hk := Nat.le_trans hk K227.1
    replace OZ := OZ.keep K227 all0
    replace K0 := K0.trans K227 all0
    replace Z0 := Nat.le_trans Z0 K227.1
    have E_b227_0 := E_b227_0'
    have F_elementData_b227_0 := F_elementData_b227_0'
    have F_size_b227_0 := F_size_b227_0'
    have V_b227_1 := V_b227_1'
    refine oG X227 H r0_163_163 165 (lA18_ p0 p1 p2 p3 p4 p5 (3 : Int32) xq x1 x2 x3 w0 w1 w2 b112 b227_0) [] ?_
    refine oNw X227 H (hV hw 47) (hV hw 48) (hV hw 49) rfl at_165 fun T228 h228 b228 X228 e228 E228 u228 E_b228 D228 => ?_
    have g_b228 := Nat.le_trans Z0 u228
    have sz_b228 := Nat.le_trans K0.1 u228
    have ne_b227_0_b228 := oNl E_b227_0.lt u228
    have ne_b227_1_b228 := oNl V_b227_1.lt u228
    replace hk := Nat.le_trans hk E228.1
    replace E_b227_0 := E_b227_0.ext E228
    replace F_elementData_b227_0 := F_elementData_b227_0.ext E228
    replace F_size_b227_0 := F_size_b227_0.ext E228
    replace V_b227_1 := V_b227_1.ext E228
    replace OZ := OZ.ext E228
    replace K0 := K0.ext E228
    replace Z0 := Nat.le_trans Z0 E228.1
    have F_modCount_b228 : Fld Z h228 b228 c4_ "modCount" "I" oZ := D228 (Or.inl (hV hw 67)) (ty := .int) dE_
    have F_elementData_b228 : Fld Z h228 b228 c0_ "elementData" c3_ .null := D228 (Or.inl (hV hw 70)) (ty := (.array (.object c1_))) dE_
    have F_size_b228 : Fld Z h228 b228 c0_ "size" "I" oZ := D228 (Or.inl (hV hw 99)) (ty := .int) dE_
    refine oG X228 H r0_168_168 169 (lA18_ p0 p1 p2 p3 p4 p5 (3 : Int32) xq x1 x2 x3 w0 w1 w2 b112 b227_0) [(.ref b228), (.ref b228)] ?_
    refine ocI X228 H (wb16_ hw) (rm10_43 hw Z0 g_b228 E_b228 F_modCount_b228 F_elementData_b228 F_size_b228 S_DEFAULTCAPACITY_EMPTY_ELEMENTDATA OZ) e228 1 b228 [] [(.ref b228)] pd_3 at_169 fun T230 _ _ X230 hQ230 => ?_
    obtain ⟨rfl, N230, K230, E_b228', F_modCount_b228', F_elementData_b228', F_size_b228'⟩ := hQ230
    replace N0 := Fr.app N0 N230
    replace hk := Nat.le_trans hk K230.1
    replace E_b227_0 := E_b227_0.keep K230
    replace F_elementData_b227_0 := F_elementData_b227_0.keep K230 (ninS ne_b227_0_b228 nin0)
    replace F_size_b227_0 := F_size_b227_0.keep K230 (ninS ne_b227_0_b228 nin0)
    replace V_b227_1 := V_b227_1.keep K230 (ninS ne_b227_1_b228 nin0)
    replace OZ := OZ.keep K230 (allS g_b228 all0)
    replace K0 := K0.trans K230 (allS (Or.inr sz_b228) all0)
    replace Z0 := Nat.le_trans Z0 K230.1
    replace E_b228 := E_b228'
    have F_modCount_b228 := F_modCount_b228'
    have F_elementData_b228 := F_elementData_b228'
    have F_size_b228 := F_size_b228'
    refine oIN X230 H r0_172_174 at_176 (lA10_ p0 p1 p2 p3 p4 p5 (3 : Int32) xq x1 x2 x3 w0 w1 w2 b112 b227_0 b228) [] rfl ((if0 _ _).trans (tlt (by decide : (0 : Int32) < (3 : Int32))).2.2.2) ?_
    refine oH X230 H r0_179_181 183 [(.ref x1), (.ref xq)] ?_
    refine ocV X230 H (wb37_ hw) (rm28_ne hw Z0 OZ S_COMPACT_STRINGS hcs (T_xq.keep K0) (T_x1.keep K0) ne_xq_x1 (fun q => hc135 q.symm)) (rfl : T230.heap = _) 0 xq (own_Str.exa (T_xq.keep K0)) [(.ref x1)] [] pd_10 at_183 fun T232 _ _ X232 hQ232 => ?_
    obtain ⟨rfl, N232, e232⟩ := hQ232
    replace N0 := Fr.app N0 N232
    refine oIY X232 H oD0 at_186 197 (lA10_ p0 p1 p2 p3 p4 p5 (3 : Int32) xq x1 x2 x3 w0 w1 w2 b112 b227_0 b228) [] rfl ((if0 _ _).trans (teq (by decide : (0 : Int32) = (0 : Int32))).1) ?_
    refine oCN X232 H r0_197_199 at_200 (lA10_ p0 p1 p2 p3 p4 p5 (3 : Int32) xq x1 x2 x3 w0 w1 w2 b112 b227_0 b228) [] rfl (tlt (by decide : (1 : Int32) < (3 : Int32))).2.2.2 ?_
    refine oH X232 H r0_203_205 207 [(.ref x2), (.ref xq)] ?_
    refine ocV X232 H (wb37_ hw) (rm28_eq hw Z0 OZ S_COMPACT_STRINGS hcs (T_xq.keep K0) (T_x2.keep K0) ne_xq_x2 hc207.symm) e232 0 xq (own_Str.exa (T_xq.keep K0)) [(.ref x2)] [] pd_10 at_207 fun T234 _ _ X234 hQ234 => ?_
    obtain ⟨rfl, N234, e234⟩ := hQ234
    replace N0 := Fr.app N0 N234
    refine oIN X234 H oD0 at_210 (lA10_ p0 p1 p2 p3 p4 p5 (3 : Int32) xq x1 x2 x3 w0 w1 w2 b112 b227_0 b228) [] rfl ((if0 _ _).trans (feq (by decide : ¬ ((1 : Int32) = (0 : Int32)))).1) ?_
    refine oH X234 H r0_213_215 217 [(.ref w1), (.ref b228)] ?_
    refine ocV X234 H (wb38_ hw) (rm15_62 hw Z0 g_b228 E_b228 F_modCount_b228 F_elementData_b228 F_size_b228 (E_w1.keep K0) (V_em.keep K0 nin0) S_DEFAULTCAPACITY_EMPTY_ELEMENTDATA OZ) e234 0 b228 E_b228 [(.ref w1)] [] pd_10 at_217 fun T236 _ _ X236 hQ236 => ?_
    obtain ⟨b236_0, k236_1, rfl, N236, K236, E_b228', _, F_elementData_b228', F_size_b228', V_b236_0', _⟩ := hQ236
    replace N0 := Fr.app N0 N236
    replace hk := Nat.le_trans hk K236.1
    replace E_b227_0 := E_b227_0.keep K236
    replace F_elementData_b227_0 := F_elementData_b227_0.keep K236 (ninS ne_b227_0_b228 nin0)
    replace F_size_b227_0 := F_size_b227_0.keep K236 (ninS ne_b227_0_b228 nin0)
    replace V_b227_1 := V_b227_1.keep K236 (ninS ne_b227_1_b228 nin0)
    replace OZ := OZ.keep K236 (allS g_b228 all0)
    replace K0 := K0.trans K236 (allS (Or.inr sz_b228) all0)
    replace Z0 := Nat.le_trans Z0 K236.1
    replace E_b228 := E_b228'
    have F_elementData_b228 := F_elementData_b228'
    have F_size_b228 := F_size_b228'
    have V_b236_0 := V_b236_0'
    refine oB_ (tF_ T236 (mkF m 221 (lA10_ p0 p1 p2 p3 p4 p5 (3 : Int32) xq x1 x2 x3 w0 w1 w2 b112 b227_0 b228) [])) (fun t k => ?_) ?_
    · refine XS.pop X236.here hx rfl (hb hby at_220) rfl rfl ?_
      exact k
    refine oCN X236 H r0_221_223 at_224 (lA10_ p0 p1 p2 p3 p4 p5 (3 : Int32) xq x1 x2 x3 w0 w1 w2 b112 b227_0 b228) [] rfl (tlt (by decide : (2 : Int32) < (3 : Int32))).2.2.2 ?_
    refine oH X236 H r0_227_229 231 [(.ref x3), (.ref xq)] ?_
    refine ocV X236 H (wb37_ hw) (rm28_ne hw Z0 OZ S_COMPACT_STRINGS hcs (T_xq.keep K0) (T_x3.keep K0) ne_xq_x3 (fun q => hc210 q.symm)) (rfl : T236.heap = _) 0 xq (own_Str.exa (T_xq.keep K0)) [(.ref x3)] [] pd_10 at_231 fun T238 _ _ X238 hQ238 => ?_
    obtain ⟨rfl, N238, e238⟩ := hQ238
    replace N0 := Fr.app N0 N238
    refine oIY X238 H oD0 at_234 245 (lA10_ p0 p1 p2 p3 p4 p5 (3 : Int32) xq x1 x2 x3 w0 w1 w2 b112 b227_0 b228) [] rfl ((if0 _ _).trans (teq (by decide : (0 : Int32) = (0 : Int32))).1) ?_
    exact own_D1 (h0 := h0) p0 p1 p2 p3 p4 p5 (3 : Int32) xq x1 x2 x3 w0 w1 w2 b112 b227_0 b228 b227_1 b236_0 k227_2 k236_1 w1 (X238.mono (cells' := 50) (slots' := 1000) dE_ dE_) hx hZ hw hby hml hown hSi Bret Blk e238 N0 Z0 E_b227_0 F_elementData_b227_0 F_size_b227_0 E_b228 F_elementData_b228 F_size_b228 V_b227_1 V_b236_0 hk
  show own_Go p e below _ (T132.setTop (mkF m 160 (lA17_ p0 p1 p2 p3 p4 p5 (3 : Int32) xq x1 x2 x3 w0 w1 w2 b112) [(.ref xq), (.ref b130)]))
  by_cases hc241 : v3 = vq
  · skip
    show own_Go p e below _ (T132.setTop (mkF m 160 (lA17_ p0 p1 p2 p3 p4 p5 (3 : Int32) xq x1 x2 x3 w0 w1 w2 b112) [(.ref xq), (.ref b130)]))
    refine ocV X132 H (wb23_ hw) (rm21_88 hw Z0 F_members_b130 (T_xq.keep K0) (V_em.keep K0 nin0) E_b112 F_modCount_b112 F_elementData_b112 F_size_b112 V_b119_0 E_b115 F_name_b115 E_b120 F_name_b120 E_b125 F_name_b125 F_value_b125 (T_x1.keep K0) (T_x2.keep K0) (T_x3.keep K0) (E_w2.keep K0) S_DEFAULTCAPACITY_EMPTY_ELEMENTDATA S_COMPACT_STRINGS OZ (by decide : ¬ ((0 : Int32) = (3 : Int32))) (by decide : (0 : Int32) < (3 : Int32)) hc135 hcs (Ne.symm ne_xq_x1) (by decide : ¬ ((1 : Int32) = (3 : Int32))) (by decide : (1 : Int32) < (3 : Int32)) hc207 (Ne.symm ne_xq_x2) (by decide : ¬ ((2 : Int32) = (3 : Int32))) (by decide : (2 : Int32) < (3 : Int32)) hc241 (Ne.symm ne_xq_x3) (by decide : (3 : Int32) = (3 : Int32))) (rfl : T132.heap = _) 0 b130 E_b130 [(.ref xq)] [] pd_16 at_160 fun T243 _ _ X243 hQ243 => ?_
    obtain ⟨b243_0, b243_1, k243_2, rfl, N243, K243, E_b243_0', _, F_elementData_b243_0', F_size_b243_0', V_b243_1', _⟩ := hQ243
    replace N0 := Fr.app N0 N243
    replace hk := Nat.le_trans hk K243.1
    replace OZ := OZ.keep K243 all0
    replace K0 := K0.trans K243 all0
    replace Z0 := Nat.le_trans Z0 K243.1
    have E_b243_0 := E_b243_0'
    have F_elementData_b243_0 := F_elementData_b243_0'
    have F_size_b243_0 := F_size_b243_0'
    have V_b243_1 := V_b243_1'
    refine oG X243 H r0_163_163 165 (lA18_ p0 p1 p2 p3 p4 p5 (3 : Int32) xq x1 x2 x3 w0 w1 w2 b112 b243_0) [] ?_
    refine oNw X243 H (hV hw 47) (hV hw 48) (hV hw 49) rfl at_165 fun T244 h244 b244 X244 e244 E244 u244 E_b244 D244 => ?_
    have g_b244 := Nat.le_trans Z0 u244
    have sz_b244 := Nat.le_trans K0.1 u244
    have ne_b243_0_b244 := oNl E_b243_0.lt u244
    have ne_b243_1_b244 := oNl V_b243_1.lt u244
    replace hk := Nat.le_trans hk E244.1
    replace E_b243_0 := E_b243_0.ext E244
    replace F_elementData_b243_0 := F_elementData_b243_0.ext E244
    replace F_size_b243_0 := F_size_b243_0.ext E244
    replace V_b243_1 := V_b243_1.ext E244
    replace OZ := OZ.ext E244
    replace K0 := K0.ext E244
    replace Z0 := Nat.le_trans Z0 E244.1
    have F_modCount_b244 : Fld Z h244 b244 c4_ "modCount" "I" oZ := D244 (Or.inl (hV hw 67)) (ty := .int) dE_
    have F_elementData_b244 : Fld Z h244 b244 c0_ "elementData" c3_ .null := D244 (Or.inl (hV hw 70)) (ty := (.array (.object c1_))) dE_
    have F_size_b244 : Fld Z h244 b244 c0_ "size" "I" oZ := D244 (Or.inl (hV hw 99)) (ty := .int) dE_
    refine oG X244 H r0_168_168 169 (lA18_ p0 p1 p2 p3 p4 p5 (3 : Int32) xq x1 x2 x3 w0 w1 w2 b112 b243_0) [(.ref b244), (.ref b244)] ?_
    refine ocI X244 H (wb16_ hw) (rm10_43 hw Z0 g_b244 E_b244 F_modCount_b244 F_elementData_b244 F_size_b244 S_DEFAULTCAPACITY_EMPTY_ELEMENTDATA OZ) e244 1 b244 [] [(.ref b244)] pd_3 at_169 fun T246 _ _ X246 hQ246 => ?_
    obtain ⟨rfl, N246, K246, E_b244', F_modCount_b244', F_elementData_b244', F_size_b244'⟩ := hQ246
    replace N0 := Fr.app N0 N246
    replace hk := Nat.le_trans hk K246.1
    replace E_b243_0 := E_b243_0.keep K246
    replace F_elementData_b243_0 := F_elementData_b243_0.keep K246 (ninS ne_b243_0_b244 nin0)
    replace F_size_b243_0 := F_size_b243_0.keep K246 (ninS ne_b243_0_b244 nin0)
    replace V_b243_1 := V_b243_1.keep K246 (ninS ne_b243_1_b244 nin0)
    replace OZ := OZ.keep K246 (allS g_b244 all0)
    replace K0 := K0.trans K246 (allS (Or.inr sz_b244) all0)
    replace Z0 := Nat.le_trans Z0 K246.1
    replace E_b244 := E_b244'
    have F_modCount_b244 := F_modCount_b244'
    have F_elementData_b244 := F_elementData_b244'
    have F_size_b244 := F_size_b244'
    refine oIN X246 H r0_172_174 at_176 (lA10_ p0 p1 p2 p3 p4 p5 (3 : Int32) xq x1 x2 x3 w0 w1 w2 b112 b243_0 b244) [] rfl ((if0 _ _).trans (tlt (by decide : (0 : Int32) < (3 : Int32))).2.2.2) ?_
    refine oH X246 H r0_179_181 183 [(.ref x1), (.ref xq)] ?_
    refine ocV X246 H (wb37_ hw) (rm28_ne hw Z0 OZ S_COMPACT_STRINGS hcs (T_xq.keep K0) (T_x1.keep K0) ne_xq_x1 (fun q => hc135 q.symm)) (rfl : T246.heap = _) 0 xq (own_Str.exa (T_xq.keep K0)) [(.ref x1)] [] pd_10 at_183 fun T248 _ _ X248 hQ248 => ?_
    obtain ⟨rfl, N248, e248⟩ := hQ248
    replace N0 := Fr.app N0 N248
    refine oIY X248 H oD0 at_186 197 (lA10_ p0 p1 p2 p3 p4 p5 (3 : Int32) xq x1 x2 x3 w0 w1 w2 b112 b243_0 b244) [] rfl ((if0 _ _).trans (teq (by decide : (0 : Int32) = (0 : Int32))).1) ?_
    refine oCN X248 H r0_197_199 at_200 (lA10_ p0 p1 p2 p3 p4 p5 (3 : Int32) xq x1 x2 x3 w0 w1 w2 b112 b243_0 b244) [] rfl (tlt (by decide : (1 : Int32) < (3 : Int32))).2.2.2 ?_
    refine oH X248 H r0_203_205 207 [(.ref x2), (.ref xq)] ?_
    refine ocV X248 H (wb37_ hw) (rm28_ne hw Z0 OZ S_COMPACT_STRINGS hcs (T_xq.keep K0) (T_x2.keep K0) ne_xq_x2 (fun q => hc207 q.symm)) e248 0 xq (own_Str.exa (T_xq.keep K0)) [(.ref x2)] [] pd_10 at_207 fun T250 _ _ X250 hQ250 => ?_
    obtain ⟨rfl, N250, e250⟩ := hQ250
    replace N0 := Fr.app N0 N250
    refine oIY X250 H oD0 at_210 221 (lA10_ p0 p1 p2 p3 p4 p5 (3 : Int32) xq x1 x2 x3 w0 w1 w2 b112 b243_0 b244) [] rfl ((if0 _ _).trans (teq (by decide : (0 : Int32) = (0 : Int32))).1) ?_
    refine oCN X250 H r0_221_223 at_224 (lA10_ p0 p1 p2 p3 p4 p5 (3 : Int32) xq x1 x2 x3 w0 w1 w2 b112 b243_0 b244) [] rfl (tlt (by decide : (2 : Int32) < (3 : Int32))).2.2.2 ?_
    refine oH X250 H r0_227_229 231 [(.ref x3), (.ref xq)] ?_
    refine ocV X250 H (wb37_ hw) (rm28_eq hw Z0 OZ S_COMPACT_STRINGS hcs (T_xq.keep K0) (T_x3.keep K0) ne_xq_x3 hc241.symm) e250 0 xq (own_Str.exa (T_xq.keep K0)) [(.ref x3)] [] pd_10 at_231 fun T252 _ _ X252 hQ252 => ?_
    obtain ⟨rfl, N252, e252⟩ := hQ252
    replace N0 := Fr.app N0 N252
    refine oIN X252 H oD0 at_234 (lA10_ p0 p1 p2 p3 p4 p5 (3 : Int32) xq x1 x2 x3 w0 w1 w2 b112 b243_0 b244) [] rfl ((if0 _ _).trans (feq (by decide : ¬ ((1 : Int32) = (0 : Int32)))).1) ?_
    refine oH X252 H r0_237_239 241 [(.ref w2), (.ref b244)] ?_
    refine ocV X252 H (wb38_ hw) (rm15_62 hw Z0 g_b244 E_b244 F_modCount_b244 F_elementData_b244 F_size_b244 (E_w2.keep K0) (V_em.keep K0 nin0) S_DEFAULTCAPACITY_EMPTY_ELEMENTDATA OZ) e252 0 b244 E_b244 [(.ref w2)] [] pd_10 at_241 fun T254 _ _ X254 hQ254 => ?_
    obtain ⟨b254_0, k254_1, rfl, N254, K254, E_b244', _, F_elementData_b244', F_size_b244', V_b254_0', _⟩ := hQ254
    replace N0 := Fr.app N0 N254
    replace hk := Nat.le_trans hk K254.1
    replace E_b243_0 := E_b243_0.keep K254
    replace F_elementData_b243_0 := F_elementData_b243_0.keep K254 (ninS ne_b243_0_b244 nin0)
    replace F_size_b243_0 := F_size_b243_0.keep K254 (ninS ne_b243_0_b244 nin0)
    replace V_b243_1 := V_b243_1.keep K254 (ninS ne_b243_1_b244 nin0)
    replace Z0 := Nat.le_trans Z0 K254.1
    replace E_b244 := E_b244'
    have F_elementData_b244 := F_elementData_b244'
    have F_size_b244 := F_size_b244'
    have V_b254_0 := V_b254_0'
    refine oB_ (tF_ T254 (mkF m 245 (lA10_ p0 p1 p2 p3 p4 p5 (3 : Int32) xq x1 x2 x3 w0 w1 w2 b112 b243_0 b244) [])) (fun t k => ?_) ?_
    · refine XS.pop X254.here hx rfl (hb hby at_244) rfl rfl ?_
      exact k
    exact own_D1 (h0 := h0) p0 p1 p2 p3 p4 p5 (3 : Int32) xq x1 x2 x3 w0 w1 w2 b112 b243_0 b244 b243_1 b254_0 k243_2 k254_1 w2 (X254.mono (cells' := 50) (slots' := 1000) dE_ dE_) hx hZ hw hby hml hown hSi Bret Blk (rfl : T254.heap = _) N0 Z0 E_b243_0 F_elementData_b243_0 F_size_b243_0 E_b244 F_elementData_b244 F_size_b244 V_b243_1 V_b254_0 hk
  show own_Go p e below _ (T132.setTop (mkF m 160 (lA17_ p0 p1 p2 p3 p4 p5 (3 : Int32) xq x1 x2 x3 w0 w1 w2 b112) [(.ref xq), (.ref b130)]))
  refine ocV X132 H (wb23_ hw) (rm21_89 hw Z0 F_members_b130 (T_xq.keep K0) E_b112 F_modCount_b112 F_elementData_b112 F_size_b112 V_b119_0 E_b115 F_name_b115 E_b120 F_name_b120 E_b125 F_name_b125 (T_x1.keep K0) (T_x2.keep K0) (T_x3.keep K0) S_DEFAULTCAPACITY_EMPTY_ELEMENTDATA S_COMPACT_STRINGS OZ (by decide : ¬ ((0 : Int32) = (3 : Int32))) (by decide : (0 : Int32) < (3 : Int32)) hc135 hcs (Ne.symm ne_xq_x1) (by decide : ¬ ((1 : Int32) = (3 : Int32))) (by decide : (1 : Int32) < (3 : Int32)) hc207 (Ne.symm ne_xq_x2) (by decide : ¬ ((2 : Int32) = (3 : Int32))) (by decide : (2 : Int32) < (3 : Int32)) hc241 (Ne.symm ne_xq_x3) (by decide : (3 : Int32) = (3 : Int32))) (rfl : T132.heap = _) 0 b130 E_b130 [(.ref xq)] [] pd_16 at_160 fun T256 _ _ X256 hQ256 => ?_
  obtain ⟨b256_0, rfl, N256, K256, E_b256_0', _, F_elementData_b256_0', F_size_b256_0', _⟩ := hQ256
  replace N0 := Fr.app N0 N256
  replace hk := Nat.le_trans hk K256.1
  replace OZ := OZ.keep K256 all0
  replace K0 := K0.trans K256 all0
  replace Z0 := Nat.le_trans Z0 K256.1
  have E_b256_0 := E_b256_0'
  have F_elementData_b256_0 := F_elementData_b256_0'
  have F_size_b256_0 := F_size_b256_0'
  refine oG X256 H r0_163_163 165 (lA18_ p0 p1 p2 p3 p4 p5 (3 : Int32) xq x1 x2 x3 w0 w1 w2 b112 b256_0) [] ?_
  refine oNw X256 H (hV hw 47) (hV hw 48) (hV hw 49) rfl at_165 fun T257 h257 b257 X257 e257 E257 u257 E_b257 D257 => ?_
  have g_b257 := Nat.le_trans Z0 u257
  have sz_b257 := Nat.le_trans K0.1 u257
  have ne_b256_0_b257 := oNl E_b256_0.lt u257
  replace hk := Nat.le_trans hk E257.1
  replace E_b256_0 := E_b256_0.ext E257
  replace F_elementData_b256_0 := F_elementData_b256_0.ext E257
  replace F_size_b256_0 := F_size_b256_0.ext E257
  replace OZ := OZ.ext E257
  replace K0 := K0.ext E257
  replace Z0 := Nat.le_trans Z0 E257.1
  have F_modCount_b257 : Fld Z h257 b257 c4_ "modCount" "I" oZ := D257 (Or.inl (hV hw 67)) (ty := .int) dE_
  have F_elementData_b257 : Fld Z h257 b257 c0_ "elementData" c3_ .null := D257 (Or.inl (hV hw 70)) (ty := (.array (.object c1_))) dE_
  have F_size_b257 : Fld Z h257 b257 c0_ "size" "I" oZ := D257 (Or.inl (hV hw 99)) (ty := .int) dE_
  refine oG X257 H r0_168_168 169 (lA18_ p0 p1 p2 p3 p4 p5 (3 : Int32) xq x1 x2 x3 w0 w1 w2 b112 b256_0) [(.ref b257), (.ref b257)] ?_
  refine ocI X257 H (wb16_ hw) (rm10_43 hw Z0 g_b257 E_b257 F_modCount_b257 F_elementData_b257 F_size_b257 S_DEFAULTCAPACITY_EMPTY_ELEMENTDATA OZ) e257 1 b257 [] [(.ref b257)] pd_3 at_169 fun T259 _ _ X259 hQ259 => ?_
  obtain ⟨rfl, N259, K259, E_b257', _, F_elementData_b257', F_size_b257'⟩ := hQ259
  replace N0 := Fr.app N0 N259
  replace hk := Nat.le_trans hk K259.1
  replace E_b256_0 := E_b256_0.keep K259
  replace F_elementData_b256_0 := F_elementData_b256_0.keep K259 (ninS ne_b256_0_b257 nin0)
  replace F_size_b256_0 := F_size_b256_0.keep K259 (ninS ne_b256_0_b257 nin0)
  replace OZ := OZ.keep K259 (allS g_b257 all0)
  replace K0 := K0.trans K259 (allS (Or.inr sz_b257) all0)
  replace Z0 := Nat.le_trans Z0 K259.1
  replace E_b257 := E_b257'
  have F_elementData_b257 := F_elementData_b257'
  have F_size_b257 := F_size_b257'
  refine oIN X259 H r0_172_174 at_176 (lA10_ p0 p1 p2 p3 p4 p5 (3 : Int32) xq x1 x2 x3 w0 w1 w2 b112 b256_0 b257) [] rfl ((if0 _ _).trans (tlt (by decide : (0 : Int32) < (3 : Int32))).2.2.2) ?_
  refine oH X259 H r0_179_181 183 [(.ref x1), (.ref xq)] ?_
  refine ocV X259 H (wb37_ hw) (rm28_ne hw Z0 OZ S_COMPACT_STRINGS hcs (T_xq.keep K0) (T_x1.keep K0) ne_xq_x1 (fun q => hc135 q.symm)) (rfl : T259.heap = _) 0 xq (own_Str.exa (T_xq.keep K0)) [(.ref x1)] [] pd_10 at_183 fun T261 _ _ X261 hQ261 => ?_
  obtain ⟨rfl, N261, e261⟩ := hQ261
  replace N0 := Fr.app N0 N261
  refine oIY X261 H oD0 at_186 197 (lA10_ p0 p1 p2 p3 p4 p5 (3 : Int32) xq x1 x2 x3 w0 w1 w2 b112 b256_0 b257) [] rfl ((if0 _ _).trans (teq (by decide : (0 : Int32) = (0 : Int32))).1) ?_
  refine oCN X261 H r0_197_199 at_200 (lA10_ p0 p1 p2 p3 p4 p5 (3 : Int32) xq x1 x2 x3 w0 w1 w2 b112 b256_0 b257) [] rfl (tlt (by decide : (1 : Int32) < (3 : Int32))).2.2.2 ?_
  refine oH X261 H r0_203_205 207 [(.ref x2), (.ref xq)] ?_
  refine ocV X261 H (wb37_ hw) (rm28_ne hw Z0 OZ S_COMPACT_STRINGS hcs (T_xq.keep K0) (T_x2.keep K0) ne_xq_x2 (fun q => hc207 q.symm)) e261 0 xq (own_Str.exa (T_xq.keep K0)) [(.ref x2)] [] pd_10 at_207 fun T263 _ _ X263 hQ263 => ?_
  obtain ⟨rfl, N263, e263⟩ := hQ263
  replace N0 := Fr.app N0 N263
  refine oIY X263 H oD0 at_210 221 (lA10_ p0 p1 p2 p3 p4 p5 (3 : Int32) xq x1 x2 x3 w0 w1 w2 b112 b256_0 b257) [] rfl ((if0 _ _).trans (teq (by decide : (0 : Int32) = (0 : Int32))).1) ?_
  refine oCN X263 H r0_221_223 at_224 (lA10_ p0 p1 p2 p3 p4 p5 (3 : Int32) xq x1 x2 x3 w0 w1 w2 b112 b256_0 b257) [] rfl (tlt (by decide : (2 : Int32) < (3 : Int32))).2.2.2 ?_
  refine oH X263 H r0_227_229 231 [(.ref x3), (.ref xq)] ?_
  refine ocV X263 H (wb37_ hw) (rm28_ne hw Z0 OZ S_COMPACT_STRINGS hcs (T_xq.keep K0) (T_x3.keep K0) ne_xq_x3 (fun q => hc241 q.symm)) e263 0 xq (own_Str.exa (T_xq.keep K0)) [(.ref x3)] [] pd_10 at_231 fun T265 _ _ X265 hQ265 => ?_
  obtain ⟨rfl, N265, e265⟩ := hQ265
  replace N0 := Fr.app N0 N265
  refine oIY X265 H oD0 at_234 245 (lA10_ p0 p1 p2 p3 p4 p5 (3 : Int32) xq x1 x2 x3 w0 w1 w2 b112 b256_0 b257) [] rfl ((if0 _ _).trans (teq (by decide : (0 : Int32) = (0 : Int32))).1) ?_
  exact own_D0 (h0 := h0) p0 p1 p2 p3 p4 p5 (3 : Int32) xq x1 x2 x3 w0 w1 w2 b112 b256_0 b257 em ke (X265.mono (cells' := 50) (slots' := 1000) dE_ dE_) hx hZ hw hby hml hown hSi Bret Blk e265 N0 Z0 E_b256_0 F_elementData_b256_0 F_size_b256_0 E_b257 F_elementData_b257 F_size_b257 (V_em.keep K0 nin0) hk

theorem r0_0_2 : oDec code [(0, .iload 5, 2), (2, .iconst 3, 1)] := by decide +kernel
theorem r0_4_7 : oDec code [(4, .istore 6, 2), (6, .iload_n 0, 1), (7, .iconst 3, 1)] := by decide +kernel
theorem r0_9_10 : oDec code [(9, .iload_n 0, 1), (10, .iconst 2, 1)] := by decide +kernel
theorem r0_15_20 : oDec code [(15, .astore 7, 2), (17, .iload 4, 2), (19, .iload_n 0, 1), (20, .iload_n 1, 1)] := by decide +kernel
theorem r0_24_28 : oDec code [(24, .astore 8, 2), (26, .iload 4, 2), (28, .iconst 1, 1)] := by decide +kernel
theorem r0_30_31 : oDec code [(30, .iload_n 0, 1), (31, .iload_n 2, 1)] := by decide +kernel
theorem r0_35_39 : oDec code [(35, .astore 9, 2), (37, .iload 4, 2), (39, .iconst 2, 1)] := by decide +kernel
theorem r0_41_42 : oDec code [(41, .iload_n 0, 1), (42, .iload_n 3, 1)] := by decide +kernel
theorem r0_46_48 : oDec code [(46, .astore 10, 2), (48, .iconst 0, 1)] := by decide +kernel
theorem r0_52_54 : oDec code [(52, .astore 11, 2), (54, .iconst 1, 1)] := by decide +kernel
theorem r0_58_60 : oDec code [(58, .astore 12, 2), (60, .iconst 2, 1)] := by decide +kernel
theorem r0_64_64 : oDec code [(64, .astore 13, 2)] := by decide +kernel
theorem pn_0 : plainName "com/example/patient_tape/patienttape/JsonObjectValuesPinLaw" = true := by first | (simp [plainName, overriddenIn]; done) | decide +kernel
theorem pd_4 : parseMethodDescriptor "(III)Ljava/lang/String;" = some ⟨[.int, .int, .int], some (.object "java/lang/String")⟩ := by decide +kernel
theorem pd_8 : parseMethodDescriptor "(I)Ljava/lang/Integer;" = some ⟨[.int], some (.object "java/lang/Integer")⟩ := by decide +kernel
theorem ef_0 (m : MethodId) (x0 x1 : Int32) (x2 x3 : Int32) (x4 x5 : Int32) : entryFrame m #[(.int x0), (.int x1), (.int x2), (.int x3), (.int x4), (.int x5)] maxLocals = mkF m 0 (lA19_ x0 x1 x2 x3 x4 x5) [] := by first | (simp [entryFrame, mkF, argsToLocals, Value.category, maxLocals]; done) | rfl
def Q0 (Z : State) (p0 p1 : Int32) (p2 p3 : Int32) (p4 p5 : Int32) (em : Addr) (ke : ClassId) (cs : Int32) (cc w0 : Addr) (w1 w2 : Addr) (h0 : Heap) (n0 : Nat) (v : Option Value) (h : Heap) (L : List Loc) : Prop := v = some (.int (1 : Int32)) ∧ Fr n0 L
set_option maxRecDepth 65536 in
set_option maxHeartbeats 40000000 in
theorem rm0 (l : Launch) (Z : State) (a0 : Array Value) (hw : oW_ a0 Z) (ws : List Jvm.Cond) (p0 p1 : Int32) (p2 p3 : Int32) (p4 p5 : Int32) (em : Addr) (ke : ClassId) (cs : Int32) (cc w0 : Addr) (w1 w2 : Addr) (h0 : Heap) (n0 : Nat) (Z0 : n0 ≤ h0.size) (OZ : Old Z n0 h0) (S_DEFAULTCAPACITY_EMPTY_ELEMENTDATA : Sta Z Z.heap c0_ c15_ c3_ (.ref em)) (V_em : Arv Z h0 em ke (.object c1_) (0 : Int32) [] .null) (S_COMPACT_STRINGS : Sta Z Z.heap c2_ c13_ "Z" (.int cs)) (hcs : ¬ (cs = (0 : Int32))) (S_high : Sta Z Z.heap c24_ "high" "I" (.int (127 : Int32))) (S_cache : Sta Z Z.heap c24_ "cache" c31_ (.ref cc)) (hIC : own_IC Z cc w0 w1 w2) (E_w0 : Exa Z h0 w0 c8_) (E_w1 : Exa Z h0 w1 c8_) (E_w2 : Exa Z h0 w2 c8_) (hCH : Jvm.Lit.constHeld Z c2_ 7) (hcw : Jvm.Lit.compactW.before a0 Z = true) :
    MetFree l x (head1 (Jvm.Cond.code x code maxLocals ret :: ws) room_1) (fun a U => a = #[(.int p0), (.int p1), (.int p2), (.int p3), (.int p4), (.int p5)] ∧ (Z.Warmed39 U.vm ∧ own_I Z U.vm h0) ∧ U.heap = h0) (fun _ _ _ _ _ => True) (fun _ U o U' => ∃ v L, o = .returned v ∧ Q0 Z p0 p1 p2 p3 p4 p5 em ke cs cc w0 w1 w2 h0 n0 v U'.heap L ∧ ReturnedEndW U o U' L room_1.cells room_1.slots) := by
  refine MetFree.of_bodySF (plainFor_of_name pn_0) hisR ?_
  intro p e s m args below meth c s₁ Bd hml0 hP hK
  obtain ⟨rfl, ⟨hZ, hI⟩, hh⟩ := hP
  have hx := Bd.exec
  have hby := Bd.bytes
  have hml : c.maxLocals = 18 := hml0
  have hown : s.vm.findClass c10_ = some m.cls := findClass_of_methodNamed Bd.named
  have X0 : Stand p l e room_1 s m #[(.int p0), (.int p1), (.int p2), (.int p3), (.int p4), (.int p5)] below meth c s₁ [] 0 0 := Stand.of_body Bd
  have e0 : s₁.heap = h0 := by rw [← hh, Bd.state]; rfl
  have N0 := Fr.nil n0
  replace X0 : Stand p l e room_1 (s.setVm s.vm) m #[(.int p0), (.int p1), (.int p2), (.int p3), (.int p4), (.int p5)] below meth c s₁ [] 0 0 := X0
  replace hZ : Z.Warmed39 (s.setVm s.vm).vm := hZ
  replace hown : (s.setVm s.vm).vm.findClass c10_ = some m.cls := hown
  have hSi : s.Since s.vm 0 := (State.WarmedH.refl s).since 0
  have hk : 0 ≤ h0.size := Nat.zero_le _
  replace hI : own_I Z (s.setVm s.vm).vm h0 := hI
  have H : oH_ p _ m c Z _ _ _ := ⟨hx, hZ, hown, hml, hby⟩
  change own_Go p e below (own_PostW s _ _ _) _
  refine own_by (fun t k => castTop (ef_0 m p0 p1 p2 p3 p4 p5) k) ?_
  refine oG X0 H r0_0_2 3 (lA19_ p0 p1 p2 p3 p4 p5) [(.int (3 : Int32)), (.int p5)] ?_
  refine oB_ (tF_ s₁ (mkF m 4 (lA19_ p0 p1 p2 p3 p4 p5) [(.int (p5 &&& (3 : Int32)))])) (fun t k => ?_) ?_
  · refine XS.iand X0.here hx rfl (hb hby at_3) rfl ?_
    exact k
  refine oG X0 H r0_4_7 8 (lA20_ p0 p1 p2 p3 p4 p5 (p5 &&& (3 : Int32))) [(.int (3 : Int32)), (.int p0)] ?_
  refine oB_ (tF_ s₁ (mkF m 9 (lA20_ p0 p1 p2 p3 p4 p5 (p5 &&& (3 : Int32))) [(.int (p0 &&& (3 : Int32)))])) (fun t k => ?_) ?_
  · refine XS.iand X0.here hx rfl (hb hby at_8) rfl ?_
    exact k
  refine oH X0 H r0_9_10 11 [(.int (2 : Int32)), (.int p0), (.int (p0 &&& (3 : Int32)))] ?_
  refine oB_ (tF_ s₁ (mkF m 12 (lA20_ p0 p1 p2 p3 p4 p5 (p5 &&& (3 : Int32))) [(.int ((p0.toUInt32 >>> ((2 : Int32) &&& 31).toUInt32).toInt32)), (.int (p0 &&& (3 : Int32)))])) (fun t k => ?_) ?_
  · refine XS.iushr X0.here hx rfl (hb hby at_11) rfl ?_
    exact k
  refine own_ccI hSi (by rw [show s₁.heap = h0 from e0]; exact hk) hZ hown (own_callSI X0 hx hZ hI (y := y18_) hown (hV hw 0) (hV hw 1) (hV hw 2) (hV hw 3) dE_ (rm1 l Z a0 hw [] (p0 &&& (3 : Int32)) ((p0.toUInt32 >>> ((2 : Int32) &&& 31).toUInt32).toInt32) cs h0 n0 Z0 (own_m3 p0) OZ S_COMPACT_STRINGS hcs hCH hcw) e0 0 rfl hml [(.int (p0 &&& (3 : Int32))), (.int ((p0.toUInt32 >>> ((2 : Int32) &&& 31).toUInt32).toInt32))] [] rfl (lenOf pd_0 rfl) rfl (hb hby at_12)) fun T2 L2 v2 X2 hSi hZ hown hQ2 hI => ?_
  obtain ⟨b2_0, vs_2, rfl, N2, K2, T_b2_0', _⟩ := hQ2
  replace N0 := Fr.app N0 N2
  replace V_em := V_em.keep K2 nin0
  replace E_w0 := E_w0.keep K2
  replace E_w1 := E_w1.keep K2
  replace E_w2 := E_w2.keep K2
  replace OZ := OZ.keep K2 all0
  replace Z0 := Nat.le_trans Z0 K2.1
  replace hk : T2.heap.size ≤ T2.heap.size := Nat.le_refl _
  have T_b2_0 := T_b2_0'
  have H : oH_ p _ m c Z _ _ _ := ⟨hx, hZ, hown, hml, hby⟩
  refine oG X2 H r0_15_20 21 (lA21_ p0 p1 p2 p3 p4 p5 (p5 &&& (3 : Int32)) b2_0) [(.int p1), (.int p0), (.int p4)] ?_
  refine own_ccI hSi hk hZ hown (own_callSI X2 hx hZ hI (y := y19_) hown (hV hw 26) (hV hw 27) (hV hw 2) (hV hw 28) dE_ (rm5 l Z a0 hw [] p4 p0 p1 cs T2.heap n0 Z0 OZ S_COMPACT_STRINGS hcs hCH hcw) (rfl : T2.heap = _) 0 rfl hml [(.int p4), (.int p0), (.int p1)] [] rfl (lenOf pd_4 rfl) rfl (hb hby at_21)) fun T4 L4 v4 X4 hSi hZ hown hQ4 hI => ?_
  obtain ⟨b4_0, vs_4, rfl, N4, K4, T_b4_0', sz_b4_0'⟩ := hQ4
  replace N0 := Fr.app N0 N4
  have ne_b2_0_b4_0 := oNl T_b2_0.lt sz_b4_0'
  replace V_em := V_em.keep K4 nin0
  replace E_w0 := E_w0.keep K4
  replace E_w1 := E_w1.keep K4
  replace E_w2 := E_w2.keep K4
  replace T_b2_0 := T_b2_0.keep K4
  replace OZ := OZ.keep K4 all0
  replace Z0 := Nat.le_trans Z0 K4.1
  replace hk : T4.heap.size ≤ T4.heap.size := Nat.le_refl _
  have T_b4_0 := T_b4_0'
  have H : oH_ p _ m c Z _ _ _ := ⟨hx, hZ, hown, hml, hby⟩
  refine oG X4 H r0_24_28 29 (lA22_ p0 p1 p2 p3 p4 p5 (p5 &&& (3 : Int32)) b2_0 b4_0) [(.int (1 : Int32)), (.int p4)] ?_
  refine oB_ (tF_ T4 (mkF m 30 (lA22_ p0 p1 p2 p3 p4 p5 (p5 &&& (3 : Int32)) b2_0 b4_0) [(.int ((p4.toUInt32 >>> ((1 : Int32) &&& 31).toUInt32).toInt32))])) (fun t k => ?_) ?_
  · refine XS.iushr X4.here hx rfl (hb hby at_29) rfl ?_
    exact k
  refine oH X4 H r0_30_31 32 [(.int p2), (.int p0), (.int ((p4.toUInt32 >>> ((1 : Int32) &&& 31).toUInt32).toInt32))] ?_
  refine own_ccI hSi hk hZ hown (own_callSI X4 hx hZ hI (y := y19_) hown (hV hw 26) (hV hw 27) (hV hw 2) (hV hw 28) dE_ (rm5 l Z a0 hw [] ((p4.toUInt32 >>> ((1 : Int32) &&& 31).toUInt32).toInt32) p0 p2 cs T4.heap n0 Z0 OZ S_COMPACT_STRINGS hcs hCH hcw) (rfl : T4.heap = _) 0 rfl hml [(.int ((p4.toUInt32 >>> ((1 : Int32) &&& 31).toUInt32).toInt32)), (.int p0), (.int p2)] [] rfl (lenOf pd_4 rfl) rfl (hb hby at_32)) fun T6 L6 v6 X6 hSi hZ hown hQ6 hI => ?_
  obtain ⟨b6_0, vs_6, rfl, N6, K6, T_b6_0', sz_b6_0'⟩ := hQ6
  replace N0 := Fr.app N0 N6
  have ne_b2_0_b6_0 := oNl T_b2_0.lt sz_b6_0'
  replace V_em := V_em.keep K6 nin0
  replace E_w0 := E_w0.keep K6
  replace E_w1 := E_w1.keep K6
  replace E_w2 := E_w2.keep K6
  replace T_b2_0 := T_b2_0.keep K6
  replace T_b4_0 := T_b4_0.keep K6
  replace OZ := OZ.keep K6 all0
  replace Z0 := Nat.le_trans Z0 K6.1
  replace hk : T6.heap.size ≤ T6.heap.size := Nat.le_refl _
  have T_b6_0 := T_b6_0'
  have H : oH_ p _ m c Z _ _ _ := ⟨hx, hZ, hown, hml, hby⟩
  refine oG X6 H r0_35_39 40 (lA23_ p0 p1 p2 p3 p4 p5 (p5 &&& (3 : Int32)) b2_0 b4_0 b6_0) [(.int (2 : Int32)), (.int p4)] ?_
  refine oB_ (tF_ T6 (mkF m 41 (lA23_ p0 p1 p2 p3 p4 p5 (p5 &&& (3 : Int32)) b2_0 b4_0 b6_0) [(.int ((p4.toUInt32 >>> ((2 : Int32) &&& 31).toUInt32).toInt32))])) (fun t k => ?_) ?_
  · refine XS.iushr X6.here hx rfl (hb hby at_40) rfl ?_
    exact k
  refine oH X6 H r0_41_42 43 [(.int p3), (.int p0), (.int ((p4.toUInt32 >>> ((2 : Int32) &&& 31).toUInt32).toInt32))] ?_
  refine own_ccI hSi hk hZ hown (own_callSI X6 hx hZ hI (y := y19_) hown (hV hw 26) (hV hw 27) (hV hw 2) (hV hw 28) dE_ (rm5 l Z a0 hw [] ((p4.toUInt32 >>> ((2 : Int32) &&& 31).toUInt32).toInt32) p0 p3 cs T6.heap n0 Z0 OZ S_COMPACT_STRINGS hcs hCH hcw) (rfl : T6.heap = _) 0 rfl hml [(.int ((p4.toUInt32 >>> ((2 : Int32) &&& 31).toUInt32).toInt32)), (.int p0), (.int p3)] [] rfl (lenOf pd_4 rfl) rfl (hb hby at_43)) fun T8 L8 v8 X8 hSi hZ hown hQ8 hI => ?_
  obtain ⟨b8_0, vs_8, rfl, N8, K8, T_b8_0', sz_b8_0'⟩ := hQ8
  replace N0 := Fr.app N0 N8
  have ne_b2_0_b8_0 := oNl T_b2_0.lt sz_b8_0'
  replace V_em := V_em.keep K8 nin0
  replace E_w0 := E_w0.keep K8
  replace E_w1 := E_w1.keep K8
  replace E_w2 := E_w2.keep K8
  replace T_b2_0 := T_b2_0.keep K8
  replace T_b4_0 := T_b4_0.keep K8
  replace T_b6_0 := T_b6_0.keep K8
  replace OZ := OZ.keep K8 all0
  replace Z0 := Nat.le_trans Z0 K8.1
  replace hk : T8.heap.size ≤ T8.heap.size := Nat.le_refl _
  have T_b8_0 := T_b8_0'
  have H : oH_ p _ m c Z _ _ _ := ⟨hx, hZ, hown, hml, hby⟩
  refine oG X8 H r0_46_48 49 (lA24_ p0 p1 p2 p3 p4 p5 (p5 &&& (3 : Int32)) b2_0 b4_0 b6_0 b8_0) [oZ] ?_
  refine ocS X8 H (wb6_ hw) (rm9_0 hw Z0 OZ S_high S_cache hIC) (rfl : T8.heap = _) 0 [oZ] [] pd_8 at_49 fun T10 _ _ X10 hQ10 => ?_
  obtain ⟨rfl, N10, e10⟩ := hQ10
  replace N0 := Fr.app N0 N10
  refine oG X10 H r0_52_54 55 (lA25_ p0 p1 p2 p3 p4 p5 (p5 &&& (3 : Int32)) b2_0 b4_0 b6_0 b8_0 w0) [(.int (1 : Int32))] ?_
  refine ocS X10 H (wb6_ hw) (rm9_1 hw Z0 OZ S_high S_cache hIC) e10 0 [(.int (1 : Int32))] [] pd_8 at_55 fun T12 _ _ X12 hQ12 => ?_
  obtain ⟨rfl, N12, e12⟩ := hQ12
  replace N0 := Fr.app N0 N12
  refine oG X12 H r0_58_60 61 (lA26_ p0 p1 p2 p3 p4 p5 (p5 &&& (3 : Int32)) b2_0 b4_0 b6_0 b8_0 w0 w1) [(.int (2 : Int32))] ?_
  refine ocS X12 H (wb6_ hw) (rm9_2 hw Z0 OZ S_high S_cache hIC) e12 0 [(.int (2 : Int32))] [] pd_8 at_61 fun T14 _ _ X14 hQ14 => ?_
  obtain ⟨rfl, N14, e14⟩ := hQ14
  replace N0 := Fr.app N0 N14
  refine oG X14 H r0_64_64 66 (lA16_ p0 p1 p2 p3 p4 p5 (p5 &&& (3 : Int32)) b2_0 b4_0 b6_0 b8_0 w0 w1 w2) [] ?_
  exact own_tail (h0 := T8.heap) p0 p1 p2 p3 p4 p5 ((p5 &&& (3 : Int32))) b2_0 b4_0 b6_0 b8_0 w0 w1 w2 em ke vs_2 vs_4 vs_6 vs_8 cs (own_m3 p5) X14 hx hZ hw hby hml hown hSi Bd.returns Bd.notSynchronized e14 N0 Z0 (Keep.refl _ _) OZ S_DEFAULTCAPACITY_EMPTY_ELEMENTDATA S_COMPACT_STRINGS hcs V_em E_w0 E_w1 E_w2 T_b2_0 T_b4_0 T_b6_0 T_b8_0 ne_b2_0_b4_0 ne_b2_0_b6_0 ne_b2_0_b8_0 hk

theorem own_ne0 {t : Term} {args : Array Value} {s : State} {cs : Int32} (ev : t.eval args s none [] s = some (.int cs)) (h : (Jvm.Cond.not (.eq t (Term.int (0 : Int32)))).before args s = true) : ¬ (cs = (0 : Int32)) := by
  intro q
  subst q
  simp [Cond.before, Cond.holds, Cond.value, Term.eval, ev] at h

set_option maxRecDepth 65536 in
set_option maxHeartbeats 40000000 in
theorem comes_1 {Post : Tables → Env → Array Value → State → Outcome → State → Prop} (hpost : ∀ tb e args s v u, (limb_1_1.after args s (.returned v) u = true ∧ limb_1_2.after args s (.returned v) u = true ∧ True) → ReturnedEndW s (.returned v) u (Jvm.fieldLocs frame_1_writes args s ++ Jvm.arrayLocs frame_1_arrays args s ++ Jvm.staticLocs frame_1_statics s) 56 1280 → Post tb e args s (.returned v) u) :
    ArmFor flags0 classFile x code maxLocals ret World_1 tables_1 room_1 Calls_1 rest_1 Pre_1 Post := by
  intro l hfl _ _ p e ha hc hk s m args below hf hA hF happ hP
  obtain ⟨hcalls, hrest, hpre⟩ := hP
  obtain ⟨-, -, -, hnamed, -, -, -, hat⟩ := (Spec.applies_iff hf).mp happ
  obtain ⟨hg, hn⟩ := and_e (Cond.before_iff.mp (show (Jvm.Cond.and given_1 narrow_1).before args s = true from hpre))
  obtain ⟨g0, g0'⟩ := and_e hg
  obtain ⟨g1, g1'⟩ := and_e g0'
  obtain ⟨g2, g2'⟩ := and_e g1'
  obtain ⟨g3, g3'⟩ := and_e g2'
  obtain ⟨g4, g4'⟩ := and_e g3'
  obtain ⟨g5, g5'⟩ := and_e g4'
  obtain ⟨w0, w1, w2, w3, w4, w5, rfl⟩ : ∃ w0 w1 w2 w3 w4 w5 : Value, args = #[w0, w1, w2, w3, w4, w5] := by
    have hs : args.size = 6 := by simpa [Cond.value, given_1] using g0
    obtain ⟨L⟩ := args
    match L, hs with
    | [w0, w1, w2, w3, w4, w5], _ => exact ⟨w0, w1, w2, w3, w4, w5, rfl⟩
  have hw := fun d (hd : d ∈ tables_1) => atoms_spec (ws := Jvm.Cond.code x code maxLocals ret :: tables_1) hat d (List.mem_cons_of_mem _ hd)
  have hfit : Fit s := fun {y c} hc i hi => by
    obtain ⟨ha, rfl⟩ := Array.getElem?_eq_some_iff.mp hc
    have q := List.all_eq_true.mp ((Array.all_eq_true_iff_forall_mem.mp hF) _ (Array.getElem_mem ha)) i (List.mem_range.mpr hi)
    simpa [Array.getElem?_eq_getElem hi] using q
  obtain ⟨i0, ei0⟩ := is_v g1
  obtain rfl : w0 = (.int i0) := Option.some.inj ei0
  obtain ⟨i1, ei1⟩ := is_v g2
  obtain rfl : w1 = (.int i1) := Option.some.inj ei1
  obtain ⟨i2, ei2⟩ := is_v g3
  obtain rfl : w2 = (.int i2) := Option.some.inj ei2
  obtain ⟨i3, ei3⟩ := is_v g4
  obtain rfl : w3 = (.int i3) := Option.some.inj ei3
  obtain ⟨i4, ei4⟩ := is_v g5
  obtain rfl : w4 = (.int i4) := Option.some.inj ei4
  obtain ⟨i5, ei5⟩ := is_v g5'
  obtain rfl : w5 = (.int i5) := Option.some.inj ei5
  obtain ⟨hsets, hown0⟩ := atoms_of _ (rest_1_c_eq ▸ (show rest_1_c.before _ s = true from hrest))
  obtain ⟨cs, vcs⟩ := is_v (Cond.before_iff.mp (hsets _ (List.mem_of_getElem? (i := 1) rfl)))
  have S_cs := Sta.start vcs (Or.inl (hsets _ (List.mem_of_getElem? (i := 0) rfl)))
  have hcs := own_ne0 vcs (hsets _ (List.mem_of_getElem? (i := 2) rfl))
  have hcw : Jvm.Lit.compactW.before _ s = true := (hsets _ (List.mem_of_getElem? (i := 2) rfl))
  have vhi := Jvm.Free.NT.SwA.eq_int (hsets _ (List.mem_of_getElem? (i := 12) rfl))
  have S_hi := Sta.start vhi (Or.inl (hsets _ (List.mem_of_getElem? (i := 10) rfl)))
  obtain ⟨cc, vcc⟩ := arr_v (Cond.before_iff.mp (hsets _ (List.mem_of_getElem? (i := 13) rfl)))
  have S_cc := Sta.start vcc (Or.inr ⟨(hV hw 45), (hsets _ (List.mem_of_getElem? (i := 11) rfl))⟩)
  obtain ⟨w0, w1, w2, hIC, E0, E1, E2⟩ := own_ic vcc (Cond.before_iff.mp (hsets _ (List.mem_of_getElem? (i := 13) rfl))) (Cond.before_iff.mp (hsets _ (List.mem_of_getElem? (i := 15) rfl))) (Cond.before_iff.mp (hsets _ (List.mem_of_getElem? (i := 16) rfl)))
  obtain ⟨em, vem⟩ := arr_v (Cond.before_iff.mp (hsets _ (List.mem_of_getElem? (i := 23) rfl)))
  obtain ⟨ce, A, hA1, hA2⟩ := own_arr vem (Cond.before_iff.mp (hsets _ (List.mem_of_getElem? (i := 23) rfl))) (Cond.before_iff.mp (hsets _ (List.mem_of_getElem? (i := 25) rfl)))
  have V_em : Arv s s.heap em ce.cls (.object c1_) (0 : Int32) [] .null := Arv.start hfit A hA1 hA2 dE_ rfl trivial
  have S_em := Sta.start vem (Or.inr ⟨(hV hw 49), (hsets _ (List.mem_of_getElem? (i := 19) rfl))⟩)
  obtain ⟨hC, -⟩ := hcalls
  have hCH : Jvm.Lit.constHeld s c2_ 7 := hC _ (List.mem_cons_self ..)
  obtain ⟨n, o, h1, h2, h3, _, L, rfl, ⟨rfl, N⟩, hq⟩ := rm0 l s _ hw tables_1 i0 i1 i2 i3 i4 i5 em ce.cls cs cc w0 w1 w2 s.heap s.heap.size (Nat.le_refl _) (Old.start s) S_em V_em S_cs hcs S_hi S_cc hIC E0 E1 E2 hCH hcw p e ha hc hk s m _ below hf ((Spec.applies_iff_loose hf).mp happ).1 ⟨rfl, ⟨State.Warmed39.refl s, Or.inl IB.start⟩, rfl⟩ trivial
  refine ⟨n, _, h1, h2, h3, hpost _ _ _ _ _ _ ⟨Cond.after_iff.mpr rfl, Cond.after_iff.mpr (eq_i res_at (Term.int_eval (1)) rfl), trivial⟩ ⟨hq.1, hq.2.1, hq.2.2.1, (hq.2.2.2.sift fun y hy => Or.inr (N y hy)).mono dE_ dE_⟩⟩
theorem main_1_1 : Claimed_1_1 := comes_1 fun _ _ _ _ _ _ h hF => ⟨h.1, hF⟩
theorem main_1_2 : Claimed_1_2 := comes_1 fun _ _ _ _ _ _ h hF => ⟨h.2.1, hF⟩
end Jvm.Pilot.@@N@@
namespace Jvm.Pilot.@@N@@
open Jvm Jvm.ClassFile Sem Op Lib Jvm.Free Jvm.Stand Jvm.Pilot.@@N@@.Jvm.D
/-! MADE BY PROGRAM (witnessworld.py) out of the Statement's table words and the real class files: 39 classes; the members and pool entries that the words name. The judged class is class 1, her method 3. -/
namespace start1
open Jvm.ClassFile
def u (s : String) : CpInfo := .utf8 (stringToUtf16 s)
/-- a pool by its gaps: so many unusable entries, then the entry; so many at the end -/
def gap : Nat → List CpInfo → List CpInfo
  | 0, r => r
  | n + 1, r => .unusable :: gap n r
def poolList (es : List (Nat × CpInfo)) (last : Nat) : List CpInfo := es.foldr (fun e r => gap e.1 (e.2 :: r)) (gap last [])
def pool (es : List (Nat × CpInfo)) (last : Nat) : Array CpInfo := ⟨poolList es last⟩
def fileOf (pool : Array CpInfo) (this : Nat) (attrs : Array Attribute := #[]) (ms : Array MethodInfo := #[]) (fl : Nat := 33) (sup : Nat := 0) (ifs : Array Nat := #[]) (fds : Array FieldInfo := #[]) : ClassFile where
  minorVersion := 0
  majorVersion := 65
  constantPool := pool
  accessFlags := fl
  thisClass := this
  superClass := sup
  interfaces := ifs
  fields := fds
  methods := ms
  attributes := attrs
def plain (name : String) (sup : Option ClassId) : Class where
  name := name
  kind := .ordinary
  loader := none
  accessFlags := 33
  super := sup
  interfaces := #[]
  cf := none
  fields := #[]
  methods := #[]
  instanceTypes := #[]
  staticTypes := #[]
  resolved := #[]
  callSites := []
  init := .initialized
  statics := none
  mirror := none

def pool0 : Array CpInfo := pool [(5, u "<init>"), (0, u "()V"), (1, .class_ 10), (1, u "java/lang/Object")] 113

def k0c0 : Code := { maxStack := 0, maxLocals := 1, code := object_method_1_code, exceptionTable := #[], attributes := #[] }
def k0m0 : Method := { name := "<init>", desc := "()V", sig := { parameters := [], returnType := none }, accessFlags := 1, code := some k0c0 }
/-- java/lang/Object -/
def k0 : Class := { plain "java/lang/Object" none with
  accessFlags := 33
  interfaces := #[]
  cf := some (fileOf pool0 8 #[] #[{ accessFlags := 1, nameIndex := 5, descriptorIndex := 6, attributes := #[] }] 33 0 #[] #[])
  fields := #[]
  methods := #[k0m0]
  instanceTypes := #[]
  staticTypes := #[]
  resolved := Array.replicate 124 none
  statics := none }

def pool1 : Array CpInfo := pool [(2, .class_ 4), (0, .nameAndType 5 6), (0, u "java/lang/Object"), (0, u "<init>"), (0, u "()V"), (0, .class_ 8), (0, u "java/lang/String"), (0, .methodref 7 10), (0, .nameAndType 5 11), (0, u "([C)V"), (0, .methodref 13 14), (0, .class_ 15), (0, .nameAndType 16 17), (0, u "com/example/patient_tape/patienttape/JsonObjectValuesPinLaw"), (0, u "str"), (0, u "(II)Ljava/lang/String;"), (0, .methodref 13 19), (0, .nameAndType 20 21), (0, u "name"), (0, u "(III)Ljava/lang/String;"), (0, .methodref 23 24), (0, .class_ 25), (0, .nameAndType 26 27), (0, u "java/lang/Integer"), (0, u "valueOf"), (0, u "(I)Ljava/lang/Integer;"), (0, .class_ 29), (0, u "java/util/ArrayList"), (0, .methodref 28 3), (0, .class_ 32), (0, u "com/example/patient_tape/patienttape/StrictJson$Member"), (0, .methodref 31 34), (0, .nameAndType 5 35), (0, u "(Ljava/lang/String;Ljava/lang/Object;)V"), (0, .interfaceMethodref 37 38), (0, .class_ 39), (0, .nameAndType 40 41), (0, u "java/util/List"), (0, u "add"), (0, u "(Ljava/lang/Object;)Z"), (0, .class_ 43), (0, u "com/example/patient_tape/patienttape/StrictJson$JsonObject"), (0, .methodref 42 45), (0, .nameAndType 5 46), (0, u "(Ljava/util/List;)V"), (0, .methodref 42 48), (0, .nameAndType 49 50), (0, u "values"), (0, u "(Ljava/lang/String;)Ljava/util/List;"), (0, .methodref 7 52), (0, .nameAndType 53 41), (0, u "equals"), (0, .methodref 28 38), (0, .interfaceMethodref 37 56), (0, .nameAndType 57 58), (0, u "size"), (0, u "()I"), (0, .methodref 28 56), (0, .interfaceMethodref 37 61), (0, .nameAndType 62 63), (0, u "get"), (0, u "(I)Ljava/lang/Object;"), (0, .methodref 28 61), (3, u "law"), (0, u "(IIIIII)Z")] 7

def k1m0 : Method := { name := "<init>", desc := "()V", sig := { parameters := [], returnType := none }, accessFlags := 1, code := none }
def k1c1 : Code := { maxStack := 6, maxLocals := 5, code := method_2_code, exceptionTable := #[], attributes := #[] }
def k1m1 : Method := { name := "str", desc := "(II)Ljava/lang/String;", sig := { parameters := [.int, .int], returnType := some (.object "java/lang/String") }, accessFlags := 10, code := some k1c1 }
def k1c2 : Code := { maxStack := 3, maxLocals := 3, code := method_3_code, exceptionTable := #[], attributes := #[] }
def k1m2 : Method := { name := "name", desc := "(III)Ljava/lang/String;", sig := { parameters := [.int, .int, .int], returnType := some (.object "java/lang/String") }, accessFlags := 10, code := some k1c2 }
def k1c3 : Code := { maxStack := 5, maxLocals := 18, code := code, exceptionTable := #[], attributes := #[] }
def k1m3 : Method := { name := "law", desc := "(IIIIII)Z", sig := { parameters := [.int, .int, .int, .int, .int, .int], returnType := some .boolean }, accessFlags := 9, code := some k1c3 }
/-- com/example/patient_tape/patienttape/JsonObjectValuesPinLaw -/
def k1 : Class := { plain "com/example/patient_tape/patienttape/JsonObjectValuesPinLaw" (some 0) with
  accessFlags := 49
  interfaces := #[]
  cf := some (fileOf pool1 13 #[] #[{ accessFlags := 1, nameIndex := 5, descriptorIndex := 6, attributes := #[] }, { accessFlags := 10, nameIndex := 16, descriptorIndex := 17, attributes := #[] }, { accessFlags := 10, nameIndex := 20, descriptorIndex := 21, attributes := #[] }, { accessFlags := 9, nameIndex := 68, descriptorIndex := 69, attributes := #[] }] 49 2 #[] #[])
  fields := #[]
  methods := #[k1m0, k1m1, k1m2, k1m3]
  instanceTypes := #[]
  staticTypes := #[]
  resolved := Array.replicate 77 none
  statics := none }

def pool2 : Array CpInfo := pool [(1, .class_ 2), (0, u "java/io/Serializable"), (0, .class_ 4), (0, u "java/lang/Object")] 2

/-- java/io/Serializable -/
def k2 : Class := { plain "java/io/Serializable" (some 0) with
  accessFlags := 1537
  interfaces := #[]
  cf := some (fileOf pool2 1 #[] #[] 1537 3 #[] #[])
  fields := #[]
  methods := #[]
  instanceTypes := #[]
  staticTypes := #[]
  resolved := Array.replicate 7 none
  statics := none }

def pool3 : Array CpInfo := pool [(1, .class_ 2), (0, u "java/lang/Comparable"), (0, .class_ 4), (0, u "java/lang/Object")] 7

/-- java/lang/Comparable -/
def k3 : Class := { plain "java/lang/Comparable" (some 0) with
  accessFlags := 1537
  interfaces := #[]
  cf := some (fileOf pool3 1 #[] #[] 1537 3 #[] #[])
  fields := #[]
  methods := #[]
  instanceTypes := #[]
  staticTypes := #[]
  resolved := Array.replicate 12 none
  statics := none }

def pool4 : Array CpInfo := pool [(2, .class_ 4), (1, u "java/lang/CharSequence"), (42, .class_ 48), (0, u "java/lang/CharSequence$1CodePointIterator"), (10, .class_ 60), (0, u "java/lang/CharSequence$1CharIterator"), (5, .class_ 67), (0, u "java/lang/Object")] 63

/-- java/lang/CharSequence -/
def k4 : Class := { plain "java/lang/CharSequence" (some 0) with
  accessFlags := 1537
  interfaces := #[]
  cf := some (fileOf pool4 2 #[.nestMembers #[47, 59]] #[] 1537 66 #[] #[])
  fields := #[]
  methods := #[]
  instanceTypes := #[]
  staticTypes := #[]
  resolved := Array.replicate 131 none
  statics := none }

def pool5 : Array CpInfo := pool [(1, .class_ 2), (0, u "java/lang/constant/Constable"), (0, .class_ 4), (0, u "java/lang/Object")] 6

/-- java/lang/constant/Constable -/
def k5 : Class := { plain "java/lang/constant/Constable" (some 0) with
  accessFlags := 1537
  interfaces := #[]
  cf := some (fileOf pool5 1 #[] #[] 1537 3 #[] #[])
  fields := #[]
  methods := #[]
  instanceTypes := #[]
  staticTypes := #[]
  resolved := Array.replicate 11 none
  statics := none }

def pool6 : Array CpInfo := pool [(1, .class_ 2), (0, u "java/lang/constant/ConstantDesc"), (0, .class_ 4), (0, u "java/lang/Object")] 32

/-- java/lang/constant/ConstantDesc -/
def k6 : Class := { plain "java/lang/constant/ConstantDesc" (some 0) with
  accessFlags := 1537
  interfaces := #[]
  cf := some (fileOf pool6 1 #[] #[] 1537 3 #[] #[])
  fields := #[]
  methods := #[]
  instanceTypes := #[]
  staticTypes := #[]
  resolved := Array.replicate 37 none
  statics := none }

def pool7 : Array CpInfo := pool [(1, .methodref 2 3), (0, .class_ 4), (0, .nameAndType 5 6), (0, u "java/lang/Object"), (0, u "<init>"), (0, u "()V"), (0, .string 8), (0, u ""), (0, .fieldref 10 11), (0, .class_ 12), (0, .nameAndType 13 14), (0, u "java/lang/String"), (0, u "value"), (0, u "[B"), (0, .fieldref 10 16), (0, .nameAndType 17 18), (0, u "coder"), (0, u "B"), (2, u "hash"), (0, u "I"), (2, u "hashIsZero"), (0, u "Z"), (0, .methodref 10 28), (0, .nameAndType 5 29), (0, u "([CIILjava/lang/Void;)V"), (8, .fieldref 10 39), (0, .nameAndType 40 26), (0, u "COMPACT_STRINGS"), (1, .class_ 44), (1, u "java/lang/StringUTF16"), (0, u "compress"), (1, .methodref 42 48), (0, .nameAndType 49 50), (0, u "coderFromArrayLen"), (0, u "([BI)B"), (56, .class_ 109), (1, u "java/lang/StringLatin1"), (67, .methodref 42 178), (0, .nameAndType 45 179), (0, u "([CII)[B"), (361, .methodref 107 542), (0, .nameAndType 543 544), (0, u "equals"), (0, u "([B[B)Z"), (28, u "(Ljava/lang/Object;)Z"), (1, .class_ 576), (0, u "java/lang/CharSequence"), (22, u "CASE_INSENSITIVE_ORDER"), (0, u "Ljava/util/Comparator;"), (409, u "([C)V"), (90, u "serialPersistentFields"), (0, u "[Ljava/io/ObjectStreamField;"), (0, .class_ 1104), (0, u "java/lang/String$CaseInsensitiveComparator"), (1, .class_ 1107), (0, u "java/io/Serializable"), (0, .class_ 1109), (0, u "java/lang/Comparable"), (0, .class_ 1111), (0, u "java/lang/constant/Constable"), (0, .class_ 1113), (0, u "java/lang/constant/ConstantDesc"), (2, u "serialVersionUID"), (0, u "J"), (3, u "REPL"), (0, u "C"), (2, u "LATIN1"), (1, u "UTF16")] 323

def k7m0 : Method := { name := "<init>", desc := "()V", sig := { parameters := [], returnType := none }, accessFlags := 1, code := none }
def k7c1 : Code := { maxStack := 5, maxLocals := 2, code := jdk_42_method_3_code, exceptionTable := #[], attributes := #[] }
def k7m1 : Method := { name := "<init>", desc := "([C)V", sig := { parameters := [(.array .char)], returnType := none }, accessFlags := 1, code := some k7c1 }
def k7c2 : Code := { maxStack := 2, maxLocals := 3, code := jdk_42_method_66_code, exceptionTable := #[], attributes := #[] }
def k7m2 : Method := { name := "equals", desc := "(Ljava/lang/Object;)Z", sig := { parameters := [(.object "java/lang/Object")], returnType := some .boolean }, accessFlags := 1, code := some k7c2 }
def k7c3 : Code := { maxStack := 4, maxLocals := 6, code := jdk_42_method_149_code, exceptionTable := #[], attributes := #[] }
def k7m3 : Method := { name := "<init>", desc := "([CIILjava/lang/Void;)V", sig := { parameters := [(.array .char), .int, .int, (.object "java/lang/Void")], returnType := none }, accessFlags := 2, code := some k7c3 }
/-- java/lang/String -/
def k7 : Class := { plain "java/lang/String" (some 0) with
  accessFlags := 49
  interfaces := #[2, 3, 4, 5, 6]
  cf := some (fileOf pool7 10 #[.nestMembers #[1103]] #[{ accessFlags := 1, nameIndex := 5, descriptorIndex := 6, attributes := #[] }, { accessFlags := 1, nameIndex := 5, descriptorIndex := 1010, attributes := #[] }, { accessFlags := 1, nameIndex := 543, descriptorIndex := 573, attributes := #[] }, { accessFlags := 2, nameIndex := 5, descriptorIndex := 29, attributes := #[] }] 49 2 #[1106, 1108, 575, 1110, 1112] #[{ accessFlags := 18, nameIndex := 13, descriptorIndex := 14, attributes := #[] }, { accessFlags := 18, nameIndex := 17, descriptorIndex := 18, attributes := #[] }, { accessFlags := 2, nameIndex := 21, descriptorIndex := 22, attributes := #[] }, { accessFlags := 2, nameIndex := 25, descriptorIndex := 26, attributes := #[] }, { accessFlags := 26, nameIndex := 1116, descriptorIndex := 1117, attributes := #[] }, { accessFlags := 24, nameIndex := 40, descriptorIndex := 26, attributes := #[] }, { accessFlags := 26, nameIndex := 1101, descriptorIndex := 1102, attributes := #[] }, { accessFlags := 26, nameIndex := 1121, descriptorIndex := 1122, attributes := #[] }, { accessFlags := 25, nameIndex := 599, descriptorIndex := 600, attributes := #[] }, { accessFlags := 24, nameIndex := 1125, descriptorIndex := 18, attributes := #[] }, { accessFlags := 24, nameIndex := 1127, descriptorIndex := 18, attributes := #[] }])
  fields := #[{ name := "value", type := (.array .byte), accessFlags := 18, slot := 0, constantValue := 0 }, { name := "coder", type := .byte, accessFlags := 18, slot := 1, constantValue := 0 }, { name := "hash", type := .int, accessFlags := 2, slot := 2, constantValue := 0 }, { name := "hashIsZero", type := .boolean, accessFlags := 2, slot := 3, constantValue := 0 }, { name := "serialVersionUID", type := .long, accessFlags := 26, slot := 0, constantValue := 0 }, { name := "COMPACT_STRINGS", type := .boolean, accessFlags := 24, slot := 1, constantValue := 0 }, { name := "serialPersistentFields", type := (.array (.object "java/io/ObjectStreamField")), accessFlags := 26, slot := 2, constantValue := 0 }, { name := "REPL", type := .char, accessFlags := 26, slot := 3, constantValue := 0 }, { name := "CASE_INSENSITIVE_ORDER", type := (.object "java/util/Comparator"), accessFlags := 25, slot := 4, constantValue := 0 }, { name := "LATIN1", type := .byte, accessFlags := 24, slot := 5, constantValue := 0 }, { name := "UTF16", type := .byte, accessFlags := 24, slot := 6, constantValue := 0 }]
  methods := #[k7m0, k7m1, k7m2, k7m3]
  instanceTypes := #[(.array .byte), .byte, .int, .boolean]
  staticTypes := #[.long, .boolean, (.array (.object "java/io/ObjectStreamField")), .char, (.object "java/util/Comparator"), .byte, .byte]
  resolved := Array.replicate 1451 none
  statics := some 0 }

def pool8 : Array CpInfo := pool [(6, .class_ 8), (1, u "java/lang/Object"), (0, u "<init>"), (0, u "()V"), (1, .class_ 14), (1, u "java/lang/StringUTF16"), (31, u "$assertionsDisabled"), (0, u "Z"), (13, u "HI_BYTE_SHIFT"), (0, u "I"), (2, u "LO_BYTE_SHIFT"), (49, .methodref 12 116), (0, .nameAndType 117 118), (0, u "compress"), (0, u "([CI[BII)I"), (3, u "([CII)[B"), (138, u "coderFromArrayLen"), (0, u "([BI)B"), (106, .class_ 371), (1, u "java/lang/StringUTF16$LinesSpliterator"), (58, u "MAX_LENGTH"), (196, .class_ 628), (0, u "java/lang/StringUTF16$CodePointsSpliterator"), (0, .class_ 630), (0, u "java/lang/StringUTF16$CharsSpliterator")] 4

def k8m0 : Method := { name := "<init>", desc := "()V", sig := { parameters := [], returnType := none }, accessFlags := 0, code := none }
def k8c1 : Code := { maxStack := 2, maxLocals := 2, code := jdk_52_method_15_code, exceptionTable := #[], attributes := #[] }
def k8m1 : Method := { name := "coderFromArrayLen", desc := "([BI)B", sig := { parameters := [(.array .byte), .int], returnType := some .byte }, accessFlags := 8, code := some k8c1 }
def k8c2 : Code := { maxStack := 5, maxLocals := 6, code := jdk_52_method_16_code, exceptionTable := #[], attributes := #[] }
def k8m2 : Method := { name := "compress", desc := "([CII)[B", sig := { parameters := [(.array .char), .int, .int], returnType := some (.array .byte) }, accessFlags := 9, code := some k8c2 }
def k8c3 : Code := { maxStack := 3, maxLocals := 7, code := jdk_52_method_21_code, exceptionTable := #[], attributes := #[] }
def k8m3 : Method := { name := "compress", desc := "([CI[BII)I", sig := { parameters := [(.array .char), .int, (.array .byte), .int, .int], returnType := some .int }, accessFlags := 9, code := some k8c3 }
/-- java/lang/StringUTF16 -/
def k8 : Class := { plain "java/lang/StringUTF16" (some 0) with
  accessFlags := 48
  interfaces := #[]
  cf := some (fileOf pool8 12 #[.nestMembers #[627, 629, 369]] #[{ accessFlags := 0, nameIndex := 9, descriptorIndex := 10, attributes := #[] }, { accessFlags := 8, nameIndex := 261, descriptorIndex := 262, attributes := #[] }, { accessFlags := 9, nameIndex := 117, descriptorIndex := 122, attributes := #[] }, { accessFlags := 9, nameIndex := 117, descriptorIndex := 118, attributes := #[] }] 48 6 #[] #[{ accessFlags := 26, nameIndex := 61, descriptorIndex := 62, attributes := #[] }, { accessFlags := 26, nameIndex := 65, descriptorIndex := 62, attributes := #[] }, { accessFlags := 24, nameIndex := 430, descriptorIndex := 62, attributes := #[] }, { accessFlags := 4120, nameIndex := 46, descriptorIndex := 47, attributes := #[] }])
  fields := #[{ name := "HI_BYTE_SHIFT", type := .int, accessFlags := 26, slot := 0, constantValue := 0 }, { name := "LO_BYTE_SHIFT", type := .int, accessFlags := 26, slot := 1, constantValue := 0 }, { name := "MAX_LENGTH", type := .int, accessFlags := 24, slot := 2, constantValue := 0 }, { name := "$assertionsDisabled", type := .boolean, accessFlags := 4120, slot := 3, constantValue := 0 }]
  methods := #[k8m0, k8m1, k8m2, k8m3]
  instanceTypes := #[]
  staticTypes := #[.int, .int, .int, .boolean]
  resolved := Array.replicate 635 none
  statics := none }

def pool9 : Array CpInfo := pool [(2, .class_ 4), (1, u "java/lang/Object"), (0, u "<init>"), (0, u "()V"), (1, .class_ 10), (1, u "java/lang/Number"), (2, .class_ 14), (0, u "java/io/Serializable"), (0, u "serialVersionUID"), (0, u "J")] 20

def k9m0 : Method := { name := "<init>", desc := "()V", sig := { parameters := [], returnType := none }, accessFlags := 1, code := none }
/-- java/lang/Number -/
def k9 : Class := { plain "java/lang/Number" (some 0) with
  accessFlags := 1057
  interfaces := #[2]
  cf := some (fileOf pool9 8 #[] #[{ accessFlags := 1, nameIndex := 5, descriptorIndex := 6, attributes := #[] }] 1057 2 #[13] #[{ accessFlags := 26, nameIndex := 15, descriptorIndex := 16, attributes := #[] }])
  fields := #[{ name := "serialVersionUID", type := .long, accessFlags := 26, slot := 0, constantValue := 0 }]
  methods := #[k9m0]
  instanceTypes := #[]
  staticTypes := #[.long]
  resolved := Array.replicate 37 none
  statics := none }

def pool10 : Array CpInfo := pool [(1, .class_ 2), (0, u "java/lang/Integer"), (16, u "digits"), (0, u "[C"), (64, u "DigitOnes"), (0, u "[B"), (2, u "DigitTens"), (97, u "valueOf"), (0, u "(I)Ljava/lang/Integer;"), (0, .class_ 190), (0, u "java/lang/Integer$IntegerCache"), (0, .fieldref 189 192), (0, .nameAndType 193 194), (0, u "high"), (0, u "I"), (0, .fieldref 189 196), (0, .nameAndType 197 198), (0, u "cache"), (0, u "[Ljava/lang/Integer;"), (4, .class_ 204), (0, u "java/lang/Number"), (2, u "value"), (94, u "TYPE"), (0, u "Ljava/lang/Class;"), (0, .class_ 305), (0, u "java/lang/Comparable"), (0, .class_ 307), (0, u "java/lang/constant/Constable"), (0, .class_ 309), (0, u "java/lang/constant/ConstantDesc"), (0, u "MIN_VALUE"), (1, u "MAX_VALUE"), (3, u "SIZE"), (1, u "BYTES"), (1, u "serialVersionUID"), (0, u "J")] 131

def k10c0 : Code := { maxStack := 3, maxLocals := 1, code := jdk_33_method_22_code, exceptionTable := #[], attributes := #[] }
def k10m0 : Method := { name := "valueOf", desc := "(I)Ljava/lang/Integer;", sig := { parameters := [.int], returnType := some (.object "java/lang/Integer") }, accessFlags := 9, code := some k10c0 }
/-- java/lang/Integer -/
def k10 : Class := { plain "java/lang/Integer" (some 9) with
  accessFlags := 49
  interfaces := #[3, 5, 6]
  cf := some (fileOf pool10 1 #[.nestMembers #[189]] #[{ accessFlags := 9, nameIndex := 187, descriptorIndex := 188, attributes := #[] }] 49 203 #[304, 306, 308] #[{ accessFlags := 25, nameIndex := 310, descriptorIndex := 194, attributes := #[] }, { accessFlags := 25, nameIndex := 312, descriptorIndex := 194, attributes := #[] }, { accessFlags := 25, nameIndex := 302, descriptorIndex := 303, attributes := #[] }, { accessFlags := 24, nameIndex := 19, descriptorIndex := 20, attributes := #[] }, { accessFlags := 24, nameIndex := 89, descriptorIndex := 86, attributes := #[] }, { accessFlags := 24, nameIndex := 85, descriptorIndex := 86, attributes := #[] }, { accessFlags := 18, nameIndex := 207, descriptorIndex := 194, attributes := #[] }, { accessFlags := 25, nameIndex := 316, descriptorIndex := 194, attributes := #[] }, { accessFlags := 25, nameIndex := 318, descriptorIndex := 194, attributes := #[] }, { accessFlags := 26, nameIndex := 320, descriptorIndex := 321, attributes := #[] }])
  fields := #[{ name := "MIN_VALUE", type := .int, accessFlags := 25, slot := 0, constantValue := 0 }, { name := "MAX_VALUE", type := .int, accessFlags := 25, slot := 1, constantValue := 0 }, { name := "TYPE", type := (.object "java/lang/Class"), accessFlags := 25, slot := 2, constantValue := 0 }, { name := "digits", type := (.array .char), accessFlags := 24, slot := 3, constantValue := 0 }, { name := "DigitTens", type := (.array .byte), accessFlags := 24, slot := 4, constantValue := 0 }, { name := "DigitOnes", type := (.array .byte), accessFlags := 24, slot := 5, constantValue := 0 }, { name := "value", type := .int, accessFlags := 18, slot := 0, constantValue := 0 }, { name := "SIZE", type := .int, accessFlags := 25, slot := 6, constantValue := 0 }, { name := "BYTES", type := .int, accessFlags := 25, slot := 7, constantValue := 0 }, { name := "serialVersionUID", type := .long, accessFlags := 26, slot := 8, constantValue := 0 }]
  methods := #[k10m0]
  instanceTypes := #[.int]
  staticTypes := #[.int, .int, (.object "java/lang/Class"), (.array .char), (.array .byte), (.array .byte), .int, .int, .long]
  resolved := Array.replicate 453 none
  statics := none }

def pool11 : Array CpInfo := pool [(2, .class_ 4), (1, u "java/lang/Object"), (0, u "<init>"), (0, u "()V"), (0, .class_ 8), (0, u "java/lang/Integer"), (7, .class_ 18), (1, u "java/lang/Integer$IntegerCache"), (0, u "$assertionsDisabled"), (0, u "Z"), (26, u "high"), (0, u "I"), (8, u "archivedCache"), (0, u "[Ljava/lang/Integer;"), (12, u "cache"), (0, u "low")] 27

def k11m0 : Method := { name := "<init>", desc := "()V", sig := { parameters := [], returnType := none }, accessFlags := 2, code := none }
/-- java/lang/Integer$IntegerCache -/
def k11 : Class := { plain "java/lang/Integer$IntegerCache" (some 0) with
  accessFlags := 48
  interfaces := #[]
  cf := some (fileOf pool11 16 #[.nestHost 7] #[{ accessFlags := 2, nameIndex := 5, descriptorIndex := 6, attributes := #[] }] 48 2 #[] #[{ accessFlags := 24, nameIndex := 72, descriptorIndex := 48, attributes := #[] }, { accessFlags := 24, nameIndex := 47, descriptorIndex := 48, attributes := #[] }, { accessFlags := 24, nameIndex := 71, descriptorIndex := 58, attributes := #[] }, { accessFlags := 8, nameIndex := 57, descriptorIndex := 58, attributes := #[] }, { accessFlags := 4120, nameIndex := 19, descriptorIndex := 20, attributes := #[] }])
  fields := #[{ name := "low", type := .int, accessFlags := 24, slot := 0, constantValue := 0 }, { name := "high", type := .int, accessFlags := 24, slot := 1, constantValue := 0 }, { name := "cache", type := (.array (.object "java/lang/Integer")), accessFlags := 24, slot := 2, constantValue := 0 }, { name := "archivedCache", type := (.array (.object "java/lang/Integer")), accessFlags := 8, slot := 3, constantValue := 0 }, { name := "$assertionsDisabled", type := .boolean, accessFlags := 4120, slot := 4, constantValue := 0 }]
  methods := #[k11m0]
  instanceTypes := #[]
  staticTypes := #[.int, .int, (.array (.object "java/lang/Integer")), (.array (.object "java/lang/Integer")), .boolean]
  resolved := Array.replicate 100 none
  statics := some 1 }

def pool12 : Array CpInfo := pool [(8, .class_ 10), (1, u "java/lang/Iterable"), (24, .class_ 36), (0, u "java/lang/Object")] 25

/-- java/lang/Iterable -/
def k12 : Class := { plain "java/lang/Iterable" (some 0) with
  accessFlags := 1537
  interfaces := #[]
  cf := some (fileOf pool12 8 #[] #[] 1537 35 #[] #[])
  fields := #[]
  methods := #[]
  instanceTypes := #[]
  staticTypes := #[]
  resolved := Array.replicate 62 none
  statics := none }

def pool13 : Array CpInfo := pool [(10, .class_ 12), (1, u "java/util/Collection"), (47, .class_ 61), (0, u "java/lang/Object"), (0, .class_ 63), (0, u "java/lang/Iterable")] 51

/-- java/util/Collection -/
def k13 : Class := { plain "java/util/Collection" (some 0) with
  accessFlags := 1537
  interfaces := #[12]
  cf := some (fileOf pool13 10 #[] #[] 1537 60 #[62] #[])
  fields := #[]
  methods := #[]
  instanceTypes := #[]
  staticTypes := #[]
  resolved := Array.replicate 115 none
  statics := none }

def pool14 : Array CpInfo := pool [(1, .methodref 2 3), (0, .class_ 4), (0, .nameAndType 5 6), (0, u "java/lang/Object"), (0, u "<init>"), (0, u "()V"), (1, .class_ 10), (1, u "java/util/AbstractCollection"), (66, .class_ 78), (0, u "java/util/Collection")] 81

def k14c0 : Code := { maxStack := 1, maxLocals := 1, code := jdk_22_method_1_code, exceptionTable := #[], attributes := #[] }
def k14m0 : Method := { name := "<init>", desc := "()V", sig := { parameters := [], returnType := none }, accessFlags := 4, code := some k14c0 }
/-- java/util/AbstractCollection -/
def k14 : Class := { plain "java/util/AbstractCollection" (some 0) with
  accessFlags := 1057
  interfaces := #[13]
  cf := some (fileOf pool14 8 #[] #[{ accessFlags := 4, nameIndex := 5, descriptorIndex := 6, attributes := #[] }] 1057 2 #[77] #[])
  fields := #[]
  methods := #[k14m0]
  instanceTypes := #[]
  staticTypes := #[]
  resolved := Array.replicate 160 none
  statics := none }

def pool15 : Array CpInfo := pool [(8, .class_ 10), (1, u "java/util/SequencedCollection"), (15, .class_ 27), (0, u "java/lang/Object"), (0, .class_ 29), (0, u "java/util/Collection")] 27

/-- java/util/SequencedCollection -/
def k15 : Class := { plain "java/util/SequencedCollection" (some 0) with
  accessFlags := 1537
  interfaces := #[13]
  cf := some (fileOf pool15 8 #[] #[] 1537 26 #[28] #[])
  fields := #[]
  methods := #[]
  instanceTypes := #[]
  staticTypes := #[]
  resolved := Array.replicate 57 none
  statics := none }

def pool16 : Array CpInfo := pool [(8, .class_ 10), (1, u "java/util/List"), (49, u "add"), (3, u "(Ljava/lang/Object;)Z"), (10, u "get"), (0, u "(I)Ljava/lang/Object;"), (2, u "size"), (0, u "()I"), (22, .class_ 104), (0, u "java/lang/Object"), (15, .class_ 121), (0, u "java/util/SequencedCollection"), (1, u "iterator"), (0, u "()Ljava/util/Iterator;")] 126

def k16m0 : Method := { name := "size", desc := "()I", sig := { parameters := [], returnType := some .int }, accessFlags := 1025, code := none }
def k16m1 : Method := { name := "iterator", desc := "()Ljava/util/Iterator;", sig := { parameters := [], returnType := some (.object "java/util/Iterator") }, accessFlags := 1025, code := none }
def k16m2 : Method := { name := "add", desc := "(Ljava/lang/Object;)Z", sig := { parameters := [(.object "java/lang/Object")], returnType := some .boolean }, accessFlags := 1025, code := none }
def k16m3 : Method := { name := "get", desc := "(I)Ljava/lang/Object;", sig := { parameters := [.int], returnType := some (.object "java/lang/Object") }, accessFlags := 1025, code := none }
/-- java/util/List -/
def k16 : Class := { plain "java/util/List" (some 0) with
  accessFlags := 1537
  interfaces := #[15]
  cf := some (fileOf pool16 8 #[] #[{ accessFlags := 1025, nameIndex := 79, descriptorIndex := 80, attributes := #[] }, { accessFlags := 1025, nameIndex := 123, descriptorIndex := 124, attributes := #[] }, { accessFlags := 1025, nameIndex := 60, descriptorIndex := 64, attributes := #[] }, { accessFlags := 1025, nameIndex := 75, descriptorIndex := 76, attributes := #[] }] 1537 103 #[120] #[])
  fields := #[]
  methods := #[k16m0, k16m1, k16m2, k16m3]
  instanceTypes := #[]
  staticTypes := #[]
  resolved := Array.replicate 251 none
  statics := none }

def pool17 : Array CpInfo := pool [(1, .methodref 2 3), (0, .class_ 4), (0, .nameAndType 5 6), (0, u "java/util/AbstractCollection"), (0, u "<init>"), (0, u "()V"), (0, .fieldref 8 9), (0, .class_ 10), (0, .nameAndType 11 12), (0, u "java/util/AbstractList"), (0, u "modCount"), (0, u "I"), (64, .class_ 78), (0, u "java/util/AbstractList$Itr"), (3, .class_ 83), (0, u "java/util/AbstractList$ListItr"), (9, .class_ 94), (0, u "java/util/AbstractList$RandomAccessSubList"), (3, .class_ 99), (0, u "java/util/AbstractList$SubList"), (33, .class_ 134), (0, u "java/util/List"), (73, .class_ 209), (0, u "java/util/AbstractList$SubList$1"), (0, .class_ 211), (0, u "java/util/AbstractList$RandomAccessSpliterator")] 6

def k17c0 : Code := { maxStack := 2, maxLocals := 1, code := jdk_39_method_1_code, exceptionTable := #[], attributes := #[] }
def k17m0 : Method := { name := "<init>", desc := "()V", sig := { parameters := [], returnType := none }, accessFlags := 4, code := some k17c0 }
/-- java/util/AbstractList -/
def k17 : Class := { plain "java/util/AbstractList" (some 14) with
  accessFlags := 1057
  interfaces := #[16]
  cf := some (fileOf pool17 8 #[.nestMembers #[93, 98, 208, 210, 82, 77]] #[{ accessFlags := 4, nameIndex := 5, descriptorIndex := 6, attributes := #[] }] 1057 2 #[133] #[{ accessFlags := 132, nameIndex := 11, descriptorIndex := 12, attributes := #[] }])
  fields := #[{ name := "modCount", type := .int, accessFlags := 132, slot := 0, constantValue := 0 }]
  methods := #[k17m0]
  instanceTypes := #[.int]
  staticTypes := #[]
  resolved := Array.replicate 218 none
  statics := none }

def pool18 : Array CpInfo := pool [(1, .class_ 2), (0, u "java/util/RandomAccess"), (0, .class_ 4), (0, u "java/lang/Object")] 2

/-- java/util/RandomAccess -/
def k18 : Class := { plain "java/util/RandomAccess" (some 0) with
  accessFlags := 1537
  interfaces := #[]
  cf := some (fileOf pool18 1 #[] #[] 1537 3 #[] #[])
  fields := #[]
  methods := #[]
  instanceTypes := #[]
  staticTypes := #[]
  resolved := Array.replicate 7 none
  statics := none }

def pool19 : Array CpInfo := pool [(1, .class_ 2), (0, u "java/lang/Cloneable"), (0, .class_ 4), (0, u "java/lang/Object")] 2

/-- java/lang/Cloneable -/
def k19 : Class := { plain "java/lang/Cloneable" (some 0) with
  accessFlags := 1537
  interfaces := #[]
  cf := some (fileOf pool19 1 #[] #[] 1537 3 #[] #[])
  fields := #[]
  methods := #[]
  instanceTypes := #[]
  staticTypes := #[]
  resolved := Array.replicate 7 none
  statics := none }

def pool20 : Array CpInfo := pool [(1, .methodref 2 3), (0, .class_ 4), (0, .nameAndType 5 6), (0, u "java/util/AbstractList"), (0, u "<init>"), (0, u "()V"), (0, .class_ 8), (0, u "java/lang/Object"), (0, .fieldref 10 11), (0, .class_ 12), (0, .nameAndType 13 14), (0, u "java/util/ArrayList"), (0, u "elementData"), (0, u "[Ljava/lang/Object;"), (2, u "EMPTY_ELEMENTDATA"), (21, .fieldref 10 40), (0, .nameAndType 41 14), (0, u "DEFAULTCAPACITY_EMPTY_ELEMENTDATA"), (5, u "()[Ljava/lang/Object;"), (0, .fieldref 10 49), (0, .nameAndType 50 51), (0, u "size"), (0, u "I"), (11, .fieldref 10 64), (0, .nameAndType 65 51), (0, u "modCount"), (3, .methodref 10 70), (0, .nameAndType 71 72), (0, u "grow"), (0, u "(I)[Ljava/lang/Object;"), (6, .methodref 80 81), (0, .class_ 82), (0, .nameAndType 83 84), (0, u "java/lang/Math"), (0, u "max"), (0, u "(II)I"), (11, u "(Ljava/lang/Object;)Z"), (21, .methodref 119 120), (0, .class_ 121), (0, .nameAndType 122 84), (0, u "java/util/Objects"), (0, u "checkIndex"), (0, .methodref 10 124), (0, .nameAndType 13 125), (0, u "(I)Ljava/lang/Object;"), (3, .methodref 10 130), (0, .nameAndType 71 47), (0, .methodref 10 132), (0, .nameAndType 133 134), (0, u "add"), (0, u "(Ljava/lang/Object;[Ljava/lang/Object;I)V"), (13, .class_ 149), (0, u "java/util/List"), (16, u "iterator"), (0, u "()Ljava/util/Iterator;"), (18, u "()I"), (75, .class_ 263), (0, u "java/util/ArrayList$ListItr"), (3, .class_ 268), (0, u "java/util/ArrayList$Itr"), (0, .methodref 267 270), (0, .nameAndType 5 271), (0, u "(Ljava/util/ArrayList;)V"), (4, .class_ 277), (0, u "java/util/ArrayList$SubList"), (12, .class_ 291), (0, u "java/util/ArrayList$ArrayListSpliterator"), (37, .class_ 330), (0, u "java/util/RandomAccess"), (0, .class_ 332), (0, u "java/lang/Cloneable"), (0, .class_ 334), (0, u "java/io/Serializable"), (0, u "serialVersionUID"), (0, u "J"), (3, u "DEFAULT_CAPACITY"), (40, u "get"), (118, .class_ 501), (0, u "java/util/ArrayList$SubList$2"), (0, .class_ 503), (0, u "java/util/ArrayList$SubList$1")] 5

def k20c0 : Code := { maxStack := 2, maxLocals := 1, code := jdk_38_method_2_code, exceptionTable := #[], attributes := #[] }
def k20m0 : Method := { name := "<init>", desc := "()V", sig := { parameters := [], returnType := none }, accessFlags := 1, code := some k20c0 }
def k20c1 : Code := { maxStack := 4, maxLocals := 4, code := jdk_38_method_6_code, exceptionTable := #[], attributes := #[] }
def k20m1 : Method := { name := "grow", desc := "(I)[Ljava/lang/Object;", sig := { parameters := [.int], returnType := some (.array (.object "java/lang/Object")) }, accessFlags := 2, code := some k20c1 }
def k20c2 : Code := { maxStack := 3, maxLocals := 1, code := jdk_38_method_7_code, exceptionTable := #[], attributes := #[] }
def k20m2 : Method := { name := "grow", desc := "()[Ljava/lang/Object;", sig := { parameters := [], returnType := some (.array (.object "java/lang/Object")) }, accessFlags := 2, code := some k20c2 }
def k20c3 : Code := { maxStack := 1, maxLocals := 1, code := jdk_38_method_8_code, exceptionTable := #[], attributes := #[] }
def k20m3 : Method := { name := "size", desc := "()I", sig := { parameters := [], returnType := some .int }, accessFlags := 1, code := some k20c3 }
def k20c4 : Code := { maxStack := 2, maxLocals := 2, code := jdk_38_method_18_code, exceptionTable := #[], attributes := #[] }
def k20m4 : Method := { name := "elementData", desc := "(I)Ljava/lang/Object;", sig := { parameters := [.int], returnType := some (.object "java/lang/Object") }, accessFlags := 0, code := some k20c4 }
def k20c5 : Code := { maxStack := 2, maxLocals := 2, code := jdk_38_method_20_code, exceptionTable := #[], attributes := #[] }
def k20m5 : Method := { name := "get", desc := "(I)Ljava/lang/Object;", sig := { parameters := [.int], returnType := some (.object "java/lang/Object") }, accessFlags := 1, code := some k20c5 }
def k20c6 : Code := { maxStack := 3, maxLocals := 4, code := jdk_38_method_24_code, exceptionTable := #[], attributes := #[] }
def k20m6 : Method := { name := "add", desc := "(Ljava/lang/Object;[Ljava/lang/Object;I)V", sig := { parameters := [(.object "java/lang/Object"), (.array (.object "java/lang/Object")), .int], returnType := none }, accessFlags := 2, code := some k20c6 }
def k20c7 : Code := { maxStack := 4, maxLocals := 2, code := jdk_38_method_25_code, exceptionTable := #[], attributes := #[] }
def k20m7 : Method := { name := "add", desc := "(Ljava/lang/Object;)Z", sig := { parameters := [(.object "java/lang/Object")], returnType := some .boolean }, accessFlags := 1, code := some k20c7 }
def k20c8 : Code := { maxStack := 3, maxLocals := 1, code := jdk_38_method_55_code, exceptionTable := #[], attributes := #[] }
def k20m8 : Method := { name := "iterator", desc := "()Ljava/util/Iterator;", sig := { parameters := [], returnType := some (.object "java/util/Iterator") }, accessFlags := 1, code := some k20c8 }
/-- java/util/ArrayList -/
def k20 : Class := { plain "java/util/ArrayList" (some 17) with
  accessFlags := 33
  interfaces := #[16, 18, 19, 2]
  cf := some (fileOf pool20 10 #[.nestMembers #[290, 276, 500, 502, 262, 267]] #[{ accessFlags := 1, nameIndex := 5, descriptorIndex := 6, attributes := #[] }, { accessFlags := 2, nameIndex := 71, descriptorIndex := 72, attributes := #[] }, { accessFlags := 2, nameIndex := 71, descriptorIndex := 47, attributes := #[] }, { accessFlags := 1, nameIndex := 50, descriptorIndex := 186, attributes := #[] }, { accessFlags := 0, nameIndex := 13, descriptorIndex := 125, attributes := #[] }, { accessFlags := 1, nameIndex := 381, descriptorIndex := 125, attributes := #[] }, { accessFlags := 2, nameIndex := 133, descriptorIndex := 134, attributes := #[] }, { accessFlags := 1, nameIndex := 133, descriptorIndex := 96, attributes := #[] }, { accessFlags := 1, nameIndex := 166, descriptorIndex := 167, attributes := #[] }] 33 2 #[148, 329, 331, 333] #[{ accessFlags := 26, nameIndex := 335, descriptorIndex := 336, attributes := #[] }, { accessFlags := 26, nameIndex := 340, descriptorIndex := 51, attributes := #[] }, { accessFlags := 26, nameIndex := 17, descriptorIndex := 14, attributes := #[] }, { accessFlags := 26, nameIndex := 41, descriptorIndex := 14, attributes := #[] }, { accessFlags := 128, nameIndex := 13, descriptorIndex := 14, attributes := #[] }, { accessFlags := 2, nameIndex := 50, descriptorIndex := 51, attributes := #[] }])
  fields := #[{ name := "serialVersionUID", type := .long, accessFlags := 26, slot := 0, constantValue := 0 }, { name := "DEFAULT_CAPACITY", type := .int, accessFlags := 26, slot := 1, constantValue := 0 }, { name := "EMPTY_ELEMENTDATA", type := (.array (.object "java/lang/Object")), accessFlags := 26, slot := 2, constantValue := 0 }, { name := "DEFAULTCAPACITY_EMPTY_ELEMENTDATA", type := (.array (.object "java/lang/Object")), accessFlags := 26, slot := 3, constantValue := 0 }, { name := "elementData", type := (.array (.object "java/lang/Object")), accessFlags := 128, slot := 1, constantValue := 0 }, { name := "size", type := .int, accessFlags := 2, slot := 2, constantValue := 0 }]
  methods := #[k20m0, k20m1, k20m2, k20m3, k20m4, k20m5, k20m6, k20m7, k20m8]
  instanceTypes := #[.int, (.array (.object "java/lang/Object")), .int]
  staticTypes := #[.long, .int, (.array (.object "java/lang/Object")), (.array (.object "java/lang/Object"))]
  resolved := Array.replicate 509 none
  statics := some 2 }

def pool21 : Array CpInfo := pool [(1, .methodref 2 3), (0, .class_ 4), (0, .nameAndType 5 6), (0, u "java/lang/Object"), (0, u "<init>"), (0, u "()V"), (0, .class_ 8), (0, u "java/lang/Record")] 13

def k21c0 : Code := { maxStack := 1, maxLocals := 1, code := jdk_30_method_1_code, exceptionTable := #[], attributes := #[] }
def k21m0 : Method := { name := "<init>", desc := "()V", sig := { parameters := [], returnType := none }, accessFlags := 4, code := some k21c0 }
/-- java/lang/Record -/
def k21 : Class := { plain "java/lang/Record" (some 0) with
  accessFlags := 1057
  interfaces := #[]
  cf := some (fileOf pool21 7 #[] #[{ accessFlags := 4, nameIndex := 5, descriptorIndex := 6, attributes := #[] }] 1057 2 #[] #[])
  fields := #[]
  methods := #[k21m0]
  instanceTypes := #[]
  staticTypes := #[]
  resolved := Array.replicate 22 none
  statics := none }

def pool22 : Array CpInfo := pool [(1, .methodref 2 3), (0, .class_ 4), (0, .nameAndType 5 6), (0, u "java/lang/Record"), (0, u "<init>"), (0, u "()V"), (0, .fieldref 8 9), (0, .class_ 10), (0, .nameAndType 11 12), (0, u "com/example/patient_tape/patienttape/StrictJson$Member"), (0, u "name"), (0, u "Ljava/lang/String;"), (0, .fieldref 8 14), (0, .nameAndType 15 16), (0, u "value"), (0, u "Ljava/lang/Object;"), (12, u "(Ljava/lang/String;Ljava/lang/Object;)V"), (3, u "()Ljava/lang/String;"), (2, u "()Ljava/lang/Object;"), (3, .class_ 41), (0, u "com/example/patient_tape/patienttape/StrictJson")] 20

def k22c0 : Code := { maxStack := 2, maxLocals := 3, code := prog_26_method_1_code, exceptionTable := #[], attributes := #[] }
def k22m0 : Method := { name := "<init>", desc := "(Ljava/lang/String;Ljava/lang/Object;)V", sig := { parameters := [(.object "java/lang/String"), (.object "java/lang/Object")], returnType := none }, accessFlags := 0, code := some k22c0 }
def k22c1 : Code := { maxStack := 1, maxLocals := 1, code := prog_26_method_5_code, exceptionTable := #[], attributes := #[] }
def k22m1 : Method := { name := "name", desc := "()Ljava/lang/String;", sig := { parameters := [], returnType := some (.object "java/lang/String") }, accessFlags := 1, code := some k22c1 }
def k22c2 : Code := { maxStack := 1, maxLocals := 1, code := prog_26_method_6_code, exceptionTable := #[], attributes := #[] }
def k22m2 : Method := { name := "value", desc := "()Ljava/lang/Object;", sig := { parameters := [], returnType := some (.object "java/lang/Object") }, accessFlags := 1, code := some k22c2 }
/-- com/example/patient_tape/patienttape/StrictJson$Member -/
def k22 : Class := { plain "com/example/patient_tape/patienttape/StrictJson$Member" (some 21) with
  accessFlags := 48
  interfaces := #[]
  cf := some (fileOf pool22 8 #[.nestHost 40] #[{ accessFlags := 0, nameIndex := 5, descriptorIndex := 29, attributes := #[] }, { accessFlags := 1, nameIndex := 11, descriptorIndex := 33, attributes := #[] }, { accessFlags := 1, nameIndex := 15, descriptorIndex := 36, attributes := #[] }] 48 2 #[] #[{ accessFlags := 18, nameIndex := 11, descriptorIndex := 12, attributes := #[] }, { accessFlags := 18, nameIndex := 15, descriptorIndex := 16, attributes := #[] }])
  fields := #[{ name := "name", type := (.object "java/lang/String"), accessFlags := 18, slot := 0, constantValue := 0 }, { name := "value", type := (.object "java/lang/Object"), accessFlags := 18, slot := 1, constantValue := 0 }]
  methods := #[k22m0, k22m1, k22m2]
  instanceTypes := #[(.object "java/lang/String"), (.object "java/lang/Object")]
  staticTypes := #[]
  resolved := Array.replicate 62 none
  statics := none }

def pool23 : Array CpInfo := pool [(1, .class_ 2), (0, u "java/lang/Math"), (1, .class_ 6), (1, u "java/lang/Object"), (0, u "<init>"), (0, u "()V"), (89, .class_ 100), (1, u "java/lang/Math$RandomNumberGeneratorHolder"), (71, u "negativeZeroFloatBits"), (0, u "J"), (2, u "negativeZeroDoubleBits"), (21, u "max"), (46, u "$assertionsDisabled"), (0, u "Z"), (88, u "(II)I"), (2, u "twoToTheDoubleScaleDown"), (0, u "D"), (4, u "twoToTheDoubleScaleUp"), (9, u "E"), (3, u "PI"), (2, u "TAU"), (2, u "DEGREES_TO_RADIANS"), (0, u "RADIANS_TO_DEGREES")] 94

def k23m0 : Method := { name := "<init>", desc := "()V", sig := { parameters := [], returnType := none }, accessFlags := 2, code := none }
def k23c1 : Code := { maxStack := 2, maxLocals := 2, code := jdk_29_method_65_code, exceptionTable := #[], attributes := #[] }
def k23m1 : Method := { name := "max", desc := "(II)I", sig := { parameters := [.int, .int], returnType := some .int }, accessFlags := 9, code := some k23c1 }
/-- java/lang/Math -/
def k23 : Class := { plain "java/lang/Math" (some 0) with
  accessFlags := 49
  interfaces := #[]
  cf := some (fileOf pool23 1 #[.nestMembers #[98]] #[{ accessFlags := 2, nameIndex := 7, descriptorIndex := 8, attributes := #[] }, { accessFlags := 9, nameIndex := 198, descriptorIndex := 335, attributes := #[] }] 49 4 #[] #[{ accessFlags := 25, nameIndex := 354, descriptorIndex := 339, attributes := #[] }, { accessFlags := 25, nameIndex := 358, descriptorIndex := 339, attributes := #[] }, { accessFlags := 25, nameIndex := 361, descriptorIndex := 339, attributes := #[] }, { accessFlags := 26, nameIndex := 364, descriptorIndex := 339, attributes := #[] }, { accessFlags := 26, nameIndex := 365, descriptorIndex := 339, attributes := #[] }, { accessFlags := 26, nameIndex := 172, descriptorIndex := 173, attributes := #[] }, { accessFlags := 26, nameIndex := 176, descriptorIndex := 173, attributes := #[] }, { accessFlags := 8, nameIndex := 344, descriptorIndex := 339, attributes := #[] }, { accessFlags := 8, nameIndex := 338, descriptorIndex := 339, attributes := #[] }, { accessFlags := 4120, nameIndex := 245, descriptorIndex := 246, attributes := #[] }])
  fields := #[{ name := "E", type := .double, accessFlags := 25, slot := 0, constantValue := 0 }, { name := "PI", type := .double, accessFlags := 25, slot := 1, constantValue := 0 }, { name := "TAU", type := .double, accessFlags := 25, slot := 2, constantValue := 0 }, { name := "DEGREES_TO_RADIANS", type := .double, accessFlags := 26, slot := 3, constantValue := 0 }, { name := "RADIANS_TO_DEGREES", type := .double, accessFlags := 26, slot := 4, constantValue := 0 }, { name := "negativeZeroFloatBits", type := .long, accessFlags := 26, slot := 5, constantValue := 0 }, { name := "negativeZeroDoubleBits", type := .long, accessFlags := 26, slot := 6, constantValue := 0 }, { name := "twoToTheDoubleScaleUp", type := .double, accessFlags := 8, slot := 7, constantValue := 0 }, { name := "twoToTheDoubleScaleDown", type := .double, accessFlags := 8, slot := 8, constantValue := 0 }, { name := "$assertionsDisabled", type := .boolean, accessFlags := 4120, slot := 9, constantValue := 0 }]
  methods := #[k23m0, k23m1]
  instanceTypes := #[]
  staticTypes := #[.double, .double, .double, .double, .double, .long, .long, .double, .double, .boolean]
  resolved := Array.replicate 460 none
  statics := none }

def pool24 : Array CpInfo := pool [(1, .methodref 2 3), (0, .class_ 4), (0, .nameAndType 5 6), (0, u "java/lang/Record"), (0, u "<init>"), (0, u "()V"), (0, .fieldref 8 9), (0, .class_ 10), (0, .nameAndType 11 12), (0, u "com/example/patient_tape/patienttape/StrictJson$JsonObject"), (0, u "members"), (0, u "Ljava/util/List;"), (0, .class_ 14), (0, u "java/util/ArrayList"), (0, .methodref 13 3), (0, .interfaceMethodref 17 18), (0, .class_ 19), (0, .nameAndType 20 21), (0, u "java/util/List"), (0, u "iterator"), (0, u "()Ljava/util/Iterator;"), (0, .interfaceMethodref 23 24), (0, .class_ 25), (0, .nameAndType 26 27), (0, u "java/util/Iterator"), (0, u "hasNext"), (0, u "()Z"), (0, .interfaceMethodref 23 29), (0, .nameAndType 30 31), (0, u "next"), (0, u "()Ljava/lang/Object;"), (0, .class_ 33), (0, u "com/example/patient_tape/patienttape/StrictJson$Member"), (0, .methodref 32 35), (0, .nameAndType 36 37), (0, u "name"), (0, u "()Ljava/lang/String;"), (0, .methodref 39 40), (0, .class_ 41), (0, .nameAndType 42 43), (0, u "java/lang/String"), (0, u "equals"), (0, u "(Ljava/lang/Object;)Z"), (0, .methodref 32 45), (0, .nameAndType 46 31), (0, u "value"), (0, .interfaceMethodref 17 48), (0, .nameAndType 49 43), (0, u "add"), (13, u "(Ljava/util/List;)V"), (4, u "values"), (0, u "(Ljava/lang/String;)Ljava/util/List;"), (8, .class_ 79), (0, u "com/example/patient_tape/patienttape/StrictJson")] 19

def k24c0 : Code := { maxStack := 2, maxLocals := 2, code := prog_24_method_1_code, exceptionTable := #[], attributes := #[] }
def k24m0 : Method := { name := "<init>", desc := "(Ljava/util/List;)V", sig := { parameters := [(.object "java/util/List")], returnType := none }, accessFlags := 0, code := some k24c0 }
def k24c1 : Code := { maxStack := 2, maxLocals := 5, code := prog_24_method_2_code, exceptionTable := #[], attributes := #[] }
def k24m1 : Method := { name := "values", desc := "(Ljava/lang/String;)Ljava/util/List;", sig := { parameters := [(.object "java/lang/String")], returnType := some (.object "java/util/List") }, accessFlags := 0, code := some k24c1 }
/-- com/example/patient_tape/patienttape/StrictJson$JsonObject -/
def k24 : Class := { plain "com/example/patient_tape/patienttape/StrictJson$JsonObject" (some 21) with
  accessFlags := 48
  interfaces := #[]
  cf := some (fileOf pool24 8 #[.nestHost 78] #[{ accessFlags := 0, nameIndex := 5, descriptorIndex := 63, attributes := #[] }, { accessFlags := 0, nameIndex := 68, descriptorIndex := 69, attributes := #[] }] 48 2 #[] #[{ accessFlags := 18, nameIndex := 11, descriptorIndex := 12, attributes := #[] }])
  fields := #[{ name := "members", type := (.object "java/util/List"), accessFlags := 18, slot := 0, constantValue := 0 }]
  methods := #[k24m0, k24m1]
  instanceTypes := #[(.object "java/util/List")]
  staticTypes := #[]
  resolved := Array.replicate 99 none
  statics := none }

def pool25 : Array CpInfo := pool [(16, .class_ 18), (1, u "java/util/Iterator"), (0, u "hasNext"), (0, u "()Z"), (2, u "next"), (0, u "()Ljava/lang/Object;"), (6, .class_ 32), (0, u "java/lang/Object")] 20

def k25m0 : Method := { name := "hasNext", desc := "()Z", sig := { parameters := [], returnType := some .boolean }, accessFlags := 1025, code := none }
def k25m1 : Method := { name := "next", desc := "()Ljava/lang/Object;", sig := { parameters := [], returnType := some (.object "java/lang/Object") }, accessFlags := 1025, code := none }
/-- java/util/Iterator -/
def k25 : Class := { plain "java/util/Iterator" (some 0) with
  accessFlags := 1537
  interfaces := #[]
  cf := some (fileOf pool25 16 #[] #[{ accessFlags := 1025, nameIndex := 19, descriptorIndex := 20, attributes := #[] }, { accessFlags := 1025, nameIndex := 23, descriptorIndex := 24, attributes := #[] }] 1537 31 #[] #[])
  fields := #[]
  methods := #[k25m0, k25m1]
  instanceTypes := #[]
  staticTypes := #[]
  resolved := Array.replicate 53 none
  statics := none }

def pool26 : Array CpInfo := pool [(1, .fieldref 2 3), (0, .class_ 4), (0, .nameAndType 5 6), (0, u "java/util/ArrayList$Itr"), (0, u "this$0"), (0, u "Ljava/util/ArrayList;"), (0, .methodref 8 9), (0, .class_ 10), (0, .nameAndType 11 12), (0, u "java/lang/Object"), (0, u "<init>"), (0, u "()V"), (0, .fieldref 2 14), (0, .nameAndType 15 16), (0, u "lastRet"), (0, u "I"), (0, .fieldref 18 19), (0, .class_ 20), (0, .nameAndType 21 16), (0, u "java/util/ArrayList"), (0, u "modCount"), (0, .fieldref 2 23), (0, .nameAndType 24 16), (0, u "expectedModCount"), (0, .fieldref 2 26), (0, .nameAndType 27 16), (0, u "cursor"), (0, .fieldref 18 29), (0, .nameAndType 30 16), (0, u "size"), (0, .methodref 2 32), (0, .nameAndType 33 12), (0, u "checkForComodification"), (3, .fieldref 18 38), (0, .nameAndType 39 40), (0, u "elementData"), (0, u "[Ljava/lang/Object;"), (28, .class_ 70), (0, u "java/util/Iterator"), (0, u "(Ljava/util/ArrayList;)V"), (8, u "hasNext"), (0, u "()Z"), (1, u "next"), (0, u "()Ljava/lang/Object;")] 19

def k26c0 : Code := { maxStack := 2, maxLocals := 2, code := jdk_49_method_1_code, exceptionTable := #[], attributes := #[] }
def k26m0 : Method := { name := "<init>", desc := "(Ljava/util/ArrayList;)V", sig := { parameters := [(.object "java/util/ArrayList")], returnType := none }, accessFlags := 0, code := some k26c0 }
def k26c1 : Code := { maxStack := 2, maxLocals := 1, code := jdk_49_method_2_code, exceptionTable := #[], attributes := #[] }
def k26m1 : Method := { name := "hasNext", desc := "()Z", sig := { parameters := [], returnType := some .boolean }, accessFlags := 1, code := some k26c1 }
def k26c2 : Code := { maxStack := 4, maxLocals := 3, code := jdk_49_method_3_code, exceptionTable := #[], attributes := #[] }
def k26m2 : Method := { name := "next", desc := "()Ljava/lang/Object;", sig := { parameters := [], returnType := some (.object "java/lang/Object") }, accessFlags := 1, code := some k26c2 }
def k26c3 : Code := { maxStack := 2, maxLocals := 1, code := jdk_49_method_6_code, exceptionTable := #[], attributes := #[] }
def k26m3 : Method := { name := "checkForComodification", desc := "()V", sig := { parameters := [], returnType := none }, accessFlags := 16, code := some k26c3 }
/-- java/util/ArrayList$Itr -/
def k26 : Class := { plain "java/util/ArrayList$Itr" (some 0) with
  accessFlags := 32
  interfaces := #[25]
  cf := some (fileOf pool26 2 #[.nestHost 18] #[{ accessFlags := 0, nameIndex := 11, descriptorIndex := 71, attributes := #[] }, { accessFlags := 1, nameIndex := 80, descriptorIndex := 81, attributes := #[] }, { accessFlags := 1, nameIndex := 83, descriptorIndex := 84, attributes := #[] }, { accessFlags := 16, nameIndex := 33, descriptorIndex := 12, attributes := #[] }] 32 8 #[69] #[{ accessFlags := 0, nameIndex := 27, descriptorIndex := 16, attributes := #[] }, { accessFlags := 0, nameIndex := 15, descriptorIndex := 16, attributes := #[] }, { accessFlags := 0, nameIndex := 24, descriptorIndex := 16, attributes := #[] }, { accessFlags := 4112, nameIndex := 5, descriptorIndex := 6, attributes := #[] }])
  fields := #[{ name := "cursor", type := .int, accessFlags := 0, slot := 0, constantValue := 0 }, { name := "lastRet", type := .int, accessFlags := 0, slot := 1, constantValue := 0 }, { name := "expectedModCount", type := .int, accessFlags := 0, slot := 2, constantValue := 0 }, { name := "this$0", type := (.object "java/util/ArrayList"), accessFlags := 4112, slot := 3, constantValue := 0 }]
  methods := #[k26m0, k26m1, k26m2, k26m3]
  instanceTypes := #[.int, .int, .int, (.object "java/util/ArrayList")]
  staticTypes := #[]
  resolved := Array.replicate 104 none
  statics := none }

def pool27 : Array CpInfo := pool [(4, .class_ 6), (1, u "java/lang/Object"), (0, u "<init>"), (0, u "()V"), (5, .class_ 16), (1, u "java/lang/StringLatin1"), (104, u "$assertionsDisabled"), (0, u "Z"), (98, .class_ 223), (1, u "java/lang/StringLatin1$LinesSpliterator"), (57, u "equals"), (0, u "([B[B)Z"), (107, .class_ 391), (0, u "java/lang/StringLatin1$CharsSpliterator")] 3

def k27m0 : Method := { name := "<init>", desc := "()V", sig := { parameters := [], returnType := none }, accessFlags := 0, code := none }
def k27c1 : Code := { maxStack := 3, maxLocals := 3, code := jdk_43_method_13_code, exceptionTable := #[], attributes := #[] }
def k27m1 : Method := { name := "equals", desc := "([B[B)Z", sig := { parameters := [(.array .byte), (.array .byte)], returnType := some .boolean }, accessFlags := 9, code := some k27c1 }
/-- java/lang/StringLatin1 -/
def k27 : Class := { plain "java/lang/StringLatin1" (some 0) with
  accessFlags := 48
  interfaces := #[]
  cf := some (fileOf pool27 14 #[.nestMembers #[390, 221]] #[{ accessFlags := 0, nameIndex := 7, descriptorIndex := 8, attributes := #[] }, { accessFlags := 9, nameIndex := 281, descriptorIndex := 282, attributes := #[] }] 48 4 #[] #[{ accessFlags := 4120, nameIndex := 121, descriptorIndex := 122, attributes := #[] }])
  fields := #[{ name := "$assertionsDisabled", type := .boolean, accessFlags := 4120, slot := 0, constantValue := 0 }]
  methods := #[k27m0, k27m1]
  instanceTypes := #[]
  staticTypes := #[.boolean]
  resolved := Array.replicate 395 none
  statics := none }

def pool28 : Array CpInfo := pool [(2, .class_ 4), (1, u "java/lang/Object"), (0, u "<init>"), (0, u "()V"), (35, .class_ 44), (1, u "java/util/Objects"), (60, .methodref 106 107), (0, .class_ 108), (0, .nameAndType 109 110), (0, u "jdk/internal/util/Preconditions"), (0, u "checkIndex"), (0, u "(IILjava/util/function/BiFunction;)I"), (60, u "(II)I")] 12

def k28m0 : Method := { name := "<init>", desc := "()V", sig := { parameters := [], returnType := none }, accessFlags := 2, code := none }
def k28c1 : Code := { maxStack := 3, maxLocals := 2, code := jdk_31_method_17_code, exceptionTable := #[], attributes := #[] }
def k28m1 : Method := { name := "checkIndex", desc := "(II)I", sig := { parameters := [.int, .int], returnType := some .int }, accessFlags := 9, code := some k28c1 }
/-- java/util/Objects -/
def k28 : Class := { plain "java/util/Objects" (some 0) with
  accessFlags := 49
  interfaces := #[]
  cf := some (fileOf pool28 42 #[] #[{ accessFlags := 2, nameIndex := 5, descriptorIndex := 6, attributes := #[] }, { accessFlags := 9, nameIndex := 109, descriptorIndex := 171, attributes := #[] }] 49 2 #[] #[])
  fields := #[]
  methods := #[k28m0, k28m1]
  instanceTypes := #[]
  staticTypes := #[]
  resolved := Array.replicate 184 none
  statics := none }

def pool29 : Array CpInfo := pool [(2, .class_ 4), (1, u "java/lang/Object"), (0, u "<init>"), (0, u "()V"), (17, .class_ 26), (1, u "jdk/internal/util/Preconditions"), (6, u "checkIndex"), (21, .class_ 56), (0, u "jdk/internal/util/Preconditions$4"), (57, .class_ 115), (0, u "jdk/internal/util/Preconditions$1"), (7, u "SIOOBE_FORMATTER"), (0, u "Ljava/util/function/BiFunction;"), (0, .class_ 126), (0, u "jdk/internal/util/Preconditions$2"), (3, u "AIOOBE_FORMATTER"), (0, .class_ 132), (0, u "jdk/internal/util/Preconditions$3"), (3, u "IOOBE_FORMATTER"), (41, u "(IILjava/util/function/BiFunction;)I")] 15

def k29m0 : Method := { name := "<init>", desc := "()V", sig := { parameters := [], returnType := none }, accessFlags := 1, code := none }
def k29c1 : Code := { maxStack := 3, maxLocals := 3, code := jdk_41_method_11_code, exceptionTable := #[], attributes := #[] }
def k29m1 : Method := { name := "checkIndex", desc := "(IILjava/util/function/BiFunction;)I", sig := { parameters := [.int, .int, (.object "java/util/function/BiFunction")], returnType := some .int }, accessFlags := 9, code := some k29c1 }
/-- jdk/internal/util/Preconditions -/
def k29 : Class := { plain "jdk/internal/util/Preconditions" (some 0) with
  accessFlags := 33
  interfaces := #[]
  cf := some (fileOf pool29 24 #[.nestMembers #[55, 131, 125, 114]] #[{ accessFlags := 1, nameIndex := 5, descriptorIndex := 6, attributes := #[] }, { accessFlags := 9, nameIndex := 33, descriptorIndex := 178, attributes := #[] }] 33 2 #[] #[{ accessFlags := 25, nameIndex := 123, descriptorIndex := 124, attributes := #[] }, { accessFlags := 25, nameIndex := 130, descriptorIndex := 124, attributes := #[] }, { accessFlags := 25, nameIndex := 136, descriptorIndex := 124, attributes := #[] }])
  fields := #[{ name := "SIOOBE_FORMATTER", type := (.object "java/util/function/BiFunction"), accessFlags := 25, slot := 0, constantValue := 0 }, { name := "AIOOBE_FORMATTER", type := (.object "java/util/function/BiFunction"), accessFlags := 25, slot := 1, constantValue := 0 }, { name := "IOOBE_FORMATTER", type := (.object "java/util/function/BiFunction"), accessFlags := 25, slot := 2, constantValue := 0 }]
  methods := #[k29m0, k29m1]
  instanceTypes := #[]
  staticTypes := #[(.object "java/util/function/BiFunction"), (.object "java/util/function/BiFunction"), (.object "java/util/function/BiFunction")]
  resolved := Array.replicate 194 none
  statics := some 3 }

def pool30 : Array CpInfo := pool [(9, u "<init>"), (6, .class_ 18), (1, u "java/lang/Object"), (0, u "()V"), (1, .class_ 23), (1, u "jdk/internal/util/ArraysSupport"), (0, u "LOG2_ARRAY_LONG_INDEX_SCALE"), (0, u "I"), (2, u "U"), (0, u "Ljdk/internal/misc/Unsafe;"), (8, u "BIG_ENDIAN"), (0, u "Z"), (8, u "LOG2_BYTE_BIT_SIZE"), (4, u "LOG2_ARRAY_INT_INDEX_SCALE"), (54, u "JLA"), (0, u "Ljdk/internal/access/JavaLangAccess;"), (11, u "LOG2_ARRAY_BOOLEAN_INDEX_SCALE"), (9, u "LOG2_ARRAY_BYTE_INDEX_SCALE"), (5, u "LOG2_ARRAY_CHAR_INDEX_SCALE"), (5, u "LOG2_ARRAY_SHORT_INDEX_SCALE"), (18, u "LOG2_ARRAY_FLOAT_INDEX_SCALE"), (24, u "LOG2_ARRAY_DOUBLE_INDEX_SCALE"), (89, u "T_BOOLEAN"), (2, u "T_CHAR"), (1, u "T_FLOAT"), (1, u "T_DOUBLE"), (1, u "T_BYTE"), (1, u "T_SHORT"), (1, u "T_INT"), (1, u "T_LONG"), (1, u "SOFT_MAX_ARRAY_LENGTH")] 83

def k30m0 : Method := { name := "<init>", desc := "()V", sig := { parameters := [], returnType := none }, accessFlags := 2, code := none }
/-- jdk/internal/util/ArraysSupport -/
def k30 : Class := { plain "jdk/internal/util/ArraysSupport" (some 0) with
  accessFlags := 33
  interfaces := #[]
  cf := some (fileOf pool30 21 #[] #[{ accessFlags := 2, nameIndex := 9, descriptorIndex := 19, attributes := #[] }] 33 16 #[] #[{ accessFlags := 24, nameIndex := 28, descriptorIndex := 29, attributes := #[] }, { accessFlags := 26, nameIndex := 38, descriptorIndex := 39, attributes := #[] }, { accessFlags := 25, nameIndex := 121, descriptorIndex := 25, attributes := #[] }, { accessFlags := 25, nameIndex := 131, descriptorIndex := 25, attributes := #[] }, { accessFlags := 25, nameIndex := 137, descriptorIndex := 25, attributes := #[] }, { accessFlags := 25, nameIndex := 143, descriptorIndex := 25, attributes := #[] }, { accessFlags := 25, nameIndex := 53, descriptorIndex := 25, attributes := #[] }, { accessFlags := 25, nameIndex := 24, descriptorIndex := 25, attributes := #[] }, { accessFlags := 25, nameIndex := 162, descriptorIndex := 25, attributes := #[] }, { accessFlags := 25, nameIndex := 187, descriptorIndex := 25, attributes := #[] }, { accessFlags := 26, nameIndex := 48, descriptorIndex := 25, attributes := #[] }, { accessFlags := 25, nameIndex := 277, descriptorIndex := 25, attributes := #[] }, { accessFlags := 25, nameIndex := 280, descriptorIndex := 25, attributes := #[] }, { accessFlags := 25, nameIndex := 282, descriptorIndex := 25, attributes := #[] }, { accessFlags := 25, nameIndex := 284, descriptorIndex := 25, attributes := #[] }, { accessFlags := 25, nameIndex := 286, descriptorIndex := 25, attributes := #[] }, { accessFlags := 25, nameIndex := 288, descriptorIndex := 25, attributes := #[] }, { accessFlags := 25, nameIndex := 290, descriptorIndex := 25, attributes := #[] }, { accessFlags := 25, nameIndex := 292, descriptorIndex := 25, attributes := #[] }, { accessFlags := 26, nameIndex := 108, descriptorIndex := 109, attributes := #[] }, { accessFlags := 25, nameIndex := 294, descriptorIndex := 25, attributes := #[] }])
  fields := #[{ name := "U", type := (.object "jdk/internal/misc/Unsafe"), accessFlags := 24, slot := 0, constantValue := 0 }, { name := "BIG_ENDIAN", type := .boolean, accessFlags := 26, slot := 1, constantValue := 0 }, { name := "LOG2_ARRAY_BOOLEAN_INDEX_SCALE", type := .int, accessFlags := 25, slot := 2, constantValue := 0 }, { name := "LOG2_ARRAY_BYTE_INDEX_SCALE", type := .int, accessFlags := 25, slot := 3, constantValue := 0 }, { name := "LOG2_ARRAY_CHAR_INDEX_SCALE", type := .int, accessFlags := 25, slot := 4, constantValue := 0 }, { name := "LOG2_ARRAY_SHORT_INDEX_SCALE", type := .int, accessFlags := 25, slot := 5, constantValue := 0 }, { name := "LOG2_ARRAY_INT_INDEX_SCALE", type := .int, accessFlags := 25, slot := 6, constantValue := 0 }, { name := "LOG2_ARRAY_LONG_INDEX_SCALE", type := .int, accessFlags := 25, slot := 7, constantValue := 0 }, { name := "LOG2_ARRAY_FLOAT_INDEX_SCALE", type := .int, accessFlags := 25, slot := 8, constantValue := 0 }, { name := "LOG2_ARRAY_DOUBLE_INDEX_SCALE", type := .int, accessFlags := 25, slot := 9, constantValue := 0 }, { name := "LOG2_BYTE_BIT_SIZE", type := .int, accessFlags := 26, slot := 10, constantValue := 0 }, { name := "T_BOOLEAN", type := .int, accessFlags := 25, slot := 11, constantValue := 0 }, { name := "T_CHAR", type := .int, accessFlags := 25, slot := 12, constantValue := 0 }, { name := "T_FLOAT", type := .int, accessFlags := 25, slot := 13, constantValue := 0 }, { name := "T_DOUBLE", type := .int, accessFlags := 25, slot := 14, constantValue := 0 }, { name := "T_BYTE", type := .int, accessFlags := 25, slot := 15, constantValue := 0 }, { name := "T_SHORT", type := .int, accessFlags := 25, slot := 16, constantValue := 0 }, { name := "T_INT", type := .int, accessFlags := 25, slot := 17, constantValue := 0 }, { name := "T_LONG", type := .int, accessFlags := 25, slot := 18, constantValue := 0 }, { name := "JLA", type := (.object "jdk/internal/access/JavaLangAccess"), accessFlags := 26, slot := 19, constantValue := 0 }, { name := "SOFT_MAX_ARRAY_LENGTH", type := .int, accessFlags := 25, slot := 20, constantValue := 0 }]
  methods := #[k30m0]
  instanceTypes := #[]
  staticTypes := #[(.object "jdk/internal/misc/Unsafe"), .boolean, .int, .int, .int, .int, .int, .int, .int, .int, .int, .int, .int, .int, .int, .int, .int, .int, .int, (.object "jdk/internal/access/JavaLangAccess"), .int]
  resolved := Array.replicate 378 none
  statics := none }

/-- the primitive byte -/
def k31 : Class := { plain "byte" none with kind := .primitive 'B', accessFlags := 0x411 }
/-- [B -/
def k32 : Class := { plain "[B" (some 0) with kind := .array 31 .byte, interfaces := #[19, 2], accessFlags := 1041 }

/-- the primitive char -/
def k33 : Class := { plain "char" none with kind := .primitive 'C', accessFlags := 0x411 }
/-- [C -/
def k34 : Class := { plain "[C" (some 0) with kind := .array 33 .char, interfaces := #[19, 2], accessFlags := 1041 }

/-- the primitive int -/
def k35 : Class := { plain "int" none with kind := .primitive 'I', accessFlags := 0x411 }
/-- [I -/
def k36 : Class := { plain "[I" (some 0) with kind := .array 35 .int, interfaces := #[19, 2], accessFlags := 1041 }

/-- [Ljava/lang/Integer; -/
def k37 : Class := { plain "[Ljava/lang/Integer;" (some 0) with kind := .array 10 (.object "java/lang/Integer"), interfaces := #[19, 2], accessFlags := 1041 }

/-- [Ljava/lang/Object; -/
def k38 : Class := { plain "[Ljava/lang/Object;" (some 0) with kind := .array 0 (.object "java/lang/Object"), interfaces := #[19, 2], accessFlags := 1041 }

def heap : Heap := #[{ cls := 7, slots := #[.long 0, .int 1, .null, .int 0, .null, .int 0, .int 0], vm := .statics 7 },
  { cls := 11, slots := #[.int 0, .int 127, .ref 4, .null, .int 0], vm := .statics 11 },
  { cls := 20, slots := #[.long 0, .int 0, .ref 5, .ref 6], vm := .statics 20 },
  { cls := 29, slots := #[.null, .null, .null], vm := .statics 29 },
  { cls := 37, slots := #[.ref 7, .ref 8, .ref 9, .ref 10, .ref 11, .ref 12, .ref 13, .ref 14, .ref 15, .ref 16, .ref 17, .ref 18, .ref 19, .ref 20, .ref 21, .ref 22, .ref 23, .ref 24, .ref 25, .ref 26, .ref 27, .ref 28, .ref 29, .ref 30, .ref 31, .ref 32, .ref 33, .ref 34, .ref 35, .ref 36, .ref 37, .ref 38, .ref 39, .ref 40, .ref 41, .ref 42, .ref 43, .ref 44, .ref 45, .ref 46, .ref 47, .ref 48, .ref 49, .ref 50, .ref 51, .ref 52, .ref 53, .ref 54, .ref 55, .ref 56, .ref 57, .ref 58, .ref 59, .ref 60, .ref 61, .ref 62, .ref 63, .ref 64, .ref 65, .ref 66, .ref 67, .ref 68, .ref 69, .ref 70, .ref 71, .ref 72, .ref 73, .ref 74, .ref 75, .ref 76, .ref 77, .ref 78, .ref 79, .ref 80, .ref 81, .ref 82, .ref 83, .ref 84, .ref 85, .ref 86, .ref 87, .ref 88, .ref 89, .ref 90, .ref 91, .ref 92, .ref 93, .ref 94, .ref 95, .ref 96, .ref 97, .ref 98, .ref 99, .ref 100, .ref 101, .ref 102, .ref 103, .ref 104, .ref 105, .ref 106, .ref 107, .ref 108, .ref 109, .ref 110, .ref 111, .ref 112, .ref 113, .ref 114, .ref 115, .ref 116, .ref 117, .ref 118, .ref 119, .ref 120, .ref 121, .ref 122, .ref 123, .ref 124, .ref 125, .ref 126, .ref 127, .ref 128, .ref 129, .ref 130, .ref 131, .ref 132, .ref 133, .ref 134, .ref 135, .ref 136, .ref 137, .ref 138, .ref 139, .ref 140, .ref 141, .ref 142, .ref 143, .ref 144, .ref 145, .ref 146, .ref 147, .ref 148, .ref 149, .ref 150, .ref 151, .ref 152, .ref 153, .ref 154, .ref 155, .ref 156, .ref 157, .ref 158, .ref 159, .ref 160, .ref 161, .ref 162, .ref 163, .ref 164, .ref 165, .ref 166, .ref 167, .ref 168, .ref 169, .ref 170, .ref 171, .ref 172, .ref 173, .ref 174, .ref 175, .ref 176, .ref 177, .ref 178, .ref 179, .ref 180, .ref 181, .ref 182, .ref 183, .ref 184, .ref 185, .ref 186, .ref 187, .ref 188, .ref 189, .ref 190, .ref 191, .ref 192, .ref 193, .ref 194, .ref 195, .ref 196, .ref 197, .ref 198, .ref 199, .ref 200, .ref 201, .ref 202, .ref 203, .ref 204, .ref 205, .ref 206, .ref 207, .ref 208, .ref 209, .ref 210, .ref 211, .ref 212, .ref 213, .ref 214, .ref 215, .ref 216, .ref 217, .ref 218, .ref 219, .ref 220, .ref 221, .ref 222, .ref 223, .ref 224, .ref 225, .ref 226, .ref 227, .ref 228, .ref 229, .ref 230, .ref 231, .ref 232, .ref 233, .ref 234, .ref 235, .ref 236, .ref 237, .ref 238, .ref 239, .ref 240, .ref 241, .ref 242, .ref 243, .ref 244, .ref 245, .ref 246, .ref 247, .ref 248, .ref 249, .ref 250, .ref 251, .ref 252, .ref 253, .ref 254, .ref 255, .ref 256, .ref 257, .ref 258, .ref 259, .ref 260, .ref 261, .ref 262], vm := .none },
  { cls := 38, slots := #[], vm := .none },
  { cls := 38, slots := #[], vm := .none },
  { cls := 10, slots := #[.int (-128)], vm := .none },
  { cls := 10, slots := #[.int (-127)], vm := .none },
  { cls := 10, slots := #[.int (-126)], vm := .none },
  { cls := 10, slots := #[.int (-125)], vm := .none },
  { cls := 10, slots := #[.int (-124)], vm := .none },
  { cls := 10, slots := #[.int (-123)], vm := .none },
  { cls := 10, slots := #[.int (-122)], vm := .none },
  { cls := 10, slots := #[.int (-121)], vm := .none },
  { cls := 10, slots := #[.int (-120)], vm := .none },
  { cls := 10, slots := #[.int (-119)], vm := .none },
  { cls := 10, slots := #[.int (-118)], vm := .none },
  { cls := 10, slots := #[.int (-117)], vm := .none },
  { cls := 10, slots := #[.int (-116)], vm := .none },
  { cls := 10, slots := #[.int (-115)], vm := .none },
  { cls := 10, slots := #[.int (-114)], vm := .none },
  { cls := 10, slots := #[.int (-113)], vm := .none },
  { cls := 10, slots := #[.int (-112)], vm := .none },
  { cls := 10, slots := #[.int (-111)], vm := .none },
  { cls := 10, slots := #[.int (-110)], vm := .none },
  { cls := 10, slots := #[.int (-109)], vm := .none },
  { cls := 10, slots := #[.int (-108)], vm := .none },
  { cls := 10, slots := #[.int (-107)], vm := .none },
  { cls := 10, slots := #[.int (-106)], vm := .none },
  { cls := 10, slots := #[.int (-105)], vm := .none },
  { cls := 10, slots := #[.int (-104)], vm := .none },
  { cls := 10, slots := #[.int (-103)], vm := .none },
  { cls := 10, slots := #[.int (-102)], vm := .none },
  { cls := 10, slots := #[.int (-101)], vm := .none },
  { cls := 10, slots := #[.int (-100)], vm := .none },
  { cls := 10, slots := #[.int (-99)], vm := .none },
  { cls := 10, slots := #[.int (-98)], vm := .none },
  { cls := 10, slots := #[.int (-97)], vm := .none },
  { cls := 10, slots := #[.int (-96)], vm := .none },
  { cls := 10, slots := #[.int (-95)], vm := .none },
  { cls := 10, slots := #[.int (-94)], vm := .none },
  { cls := 10, slots := #[.int (-93)], vm := .none },
  { cls := 10, slots := #[.int (-92)], vm := .none },
  { cls := 10, slots := #[.int (-91)], vm := .none },
  { cls := 10, slots := #[.int (-90)], vm := .none },
  { cls := 10, slots := #[.int (-89)], vm := .none },
  { cls := 10, slots := #[.int (-88)], vm := .none },
  { cls := 10, slots := #[.int (-87)], vm := .none },
  { cls := 10, slots := #[.int (-86)], vm := .none },
  { cls := 10, slots := #[.int (-85)], vm := .none },
  { cls := 10, slots := #[.int (-84)], vm := .none },
  { cls := 10, slots := #[.int (-83)], vm := .none },
  { cls := 10, slots := #[.int (-82)], vm := .none },
  { cls := 10, slots := #[.int (-81)], vm := .none },
  { cls := 10, slots := #[.int (-80)], vm := .none },
  { cls := 10, slots := #[.int (-79)], vm := .none },
  { cls := 10, slots := #[.int (-78)], vm := .none },
  { cls := 10, slots := #[.int (-77)], vm := .none },
  { cls := 10, slots := #[.int (-76)], vm := .none },
  { cls := 10, slots := #[.int (-75)], vm := .none },
  { cls := 10, slots := #[.int (-74)], vm := .none },
  { cls := 10, slots := #[.int (-73)], vm := .none },
  { cls := 10, slots := #[.int (-72)], vm := .none },
  { cls := 10, slots := #[.int (-71)], vm := .none },
  { cls := 10, slots := #[.int (-70)], vm := .none },
  { cls := 10, slots := #[.int (-69)], vm := .none },
  { cls := 10, slots := #[.int (-68)], vm := .none },
  { cls := 10, slots := #[.int (-67)], vm := .none },
  { cls := 10, slots := #[.int (-66)], vm := .none },
  { cls := 10, slots := #[.int (-65)], vm := .none },
  { cls := 10, slots := #[.int (-64)], vm := .none },
  { cls := 10, slots := #[.int (-63)], vm := .none },
  { cls := 10, slots := #[.int (-62)], vm := .none },
  { cls := 10, slots := #[.int (-61)], vm := .none },
  { cls := 10, slots := #[.int (-60)], vm := .none },
  { cls := 10, slots := #[.int (-59)], vm := .none },
  { cls := 10, slots := #[.int (-58)], vm := .none },
  { cls := 10, slots := #[.int (-57)], vm := .none },
  { cls := 10, slots := #[.int (-56)], vm := .none },
  { cls := 10, slots := #[.int (-55)], vm := .none },
  { cls := 10, slots := #[.int (-54)], vm := .none },
  { cls := 10, slots := #[.int (-53)], vm := .none },
  { cls := 10, slots := #[.int (-52)], vm := .none },
  { cls := 10, slots := #[.int (-51)], vm := .none },
  { cls := 10, slots := #[.int (-50)], vm := .none },
  { cls := 10, slots := #[.int (-49)], vm := .none },
  { cls := 10, slots := #[.int (-48)], vm := .none },
  { cls := 10, slots := #[.int (-47)], vm := .none },
  { cls := 10, slots := #[.int (-46)], vm := .none },
  { cls := 10, slots := #[.int (-45)], vm := .none },
  { cls := 10, slots := #[.int (-44)], vm := .none },
  { cls := 10, slots := #[.int (-43)], vm := .none },
  { cls := 10, slots := #[.int (-42)], vm := .none },
  { cls := 10, slots := #[.int (-41)], vm := .none },
  { cls := 10, slots := #[.int (-40)], vm := .none },
  { cls := 10, slots := #[.int (-39)], vm := .none },
  { cls := 10, slots := #[.int (-38)], vm := .none },
  { cls := 10, slots := #[.int (-37)], vm := .none },
  { cls := 10, slots := #[.int (-36)], vm := .none },
  { cls := 10, slots := #[.int (-35)], vm := .none },
  { cls := 10, slots := #[.int (-34)], vm := .none },
  { cls := 10, slots := #[.int (-33)], vm := .none },
  { cls := 10, slots := #[.int (-32)], vm := .none },
  { cls := 10, slots := #[.int (-31)], vm := .none },
  { cls := 10, slots := #[.int (-30)], vm := .none },
  { cls := 10, slots := #[.int (-29)], vm := .none },
  { cls := 10, slots := #[.int (-28)], vm := .none },
  { cls := 10, slots := #[.int (-27)], vm := .none },
  { cls := 10, slots := #[.int (-26)], vm := .none },
  { cls := 10, slots := #[.int (-25)], vm := .none },
  { cls := 10, slots := #[.int (-24)], vm := .none },
  { cls := 10, slots := #[.int (-23)], vm := .none },
  { cls := 10, slots := #[.int (-22)], vm := .none },
  { cls := 10, slots := #[.int (-21)], vm := .none },
  { cls := 10, slots := #[.int (-20)], vm := .none },
  { cls := 10, slots := #[.int (-19)], vm := .none },
  { cls := 10, slots := #[.int (-18)], vm := .none },
  { cls := 10, slots := #[.int (-17)], vm := .none },
  { cls := 10, slots := #[.int (-16)], vm := .none },
  { cls := 10, slots := #[.int (-15)], vm := .none },
  { cls := 10, slots := #[.int (-14)], vm := .none },
  { cls := 10, slots := #[.int (-13)], vm := .none },
  { cls := 10, slots := #[.int (-12)], vm := .none },
  { cls := 10, slots := #[.int (-11)], vm := .none },
  { cls := 10, slots := #[.int (-10)], vm := .none },
  { cls := 10, slots := #[.int (-9)], vm := .none },
  { cls := 10, slots := #[.int (-8)], vm := .none },
  { cls := 10, slots := #[.int (-7)], vm := .none },
  { cls := 10, slots := #[.int (-6)], vm := .none },
  { cls := 10, slots := #[.int (-5)], vm := .none },
  { cls := 10, slots := #[.int (-4)], vm := .none },
  { cls := 10, slots := #[.int (-3)], vm := .none },
  { cls := 10, slots := #[.int (-2)], vm := .none },
  { cls := 10, slots := #[.int (-1)], vm := .none },
  { cls := 10, slots := #[.int 0], vm := .none },
  { cls := 10, slots := #[.int 1], vm := .none },
  { cls := 10, slots := #[.int 2], vm := .none },
  { cls := 10, slots := #[.int 3], vm := .none },
  { cls := 10, slots := #[.int 4], vm := .none },
  { cls := 10, slots := #[.int 5], vm := .none },
  { cls := 10, slots := #[.int 6], vm := .none },
  { cls := 10, slots := #[.int 7], vm := .none },
  { cls := 10, slots := #[.int 8], vm := .none },
  { cls := 10, slots := #[.int 9], vm := .none },
  { cls := 10, slots := #[.int 10], vm := .none },
  { cls := 10, slots := #[.int 11], vm := .none },
  { cls := 10, slots := #[.int 12], vm := .none },
  { cls := 10, slots := #[.int 13], vm := .none },
  { cls := 10, slots := #[.int 14], vm := .none },
  { cls := 10, slots := #[.int 15], vm := .none },
  { cls := 10, slots := #[.int 16], vm := .none },
  { cls := 10, slots := #[.int 17], vm := .none },
  { cls := 10, slots := #[.int 18], vm := .none },
  { cls := 10, slots := #[.int 19], vm := .none },
  { cls := 10, slots := #[.int 20], vm := .none },
  { cls := 10, slots := #[.int 21], vm := .none },
  { cls := 10, slots := #[.int 22], vm := .none },
  { cls := 10, slots := #[.int 23], vm := .none },
  { cls := 10, slots := #[.int 24], vm := .none },
  { cls := 10, slots := #[.int 25], vm := .none },
  { cls := 10, slots := #[.int 26], vm := .none },
  { cls := 10, slots := #[.int 27], vm := .none },
  { cls := 10, slots := #[.int 28], vm := .none },
  { cls := 10, slots := #[.int 29], vm := .none },
  { cls := 10, slots := #[.int 30], vm := .none },
  { cls := 10, slots := #[.int 31], vm := .none },
  { cls := 10, slots := #[.int 32], vm := .none },
  { cls := 10, slots := #[.int 33], vm := .none },
  { cls := 10, slots := #[.int 34], vm := .none },
  { cls := 10, slots := #[.int 35], vm := .none },
  { cls := 10, slots := #[.int 36], vm := .none },
  { cls := 10, slots := #[.int 37], vm := .none },
  { cls := 10, slots := #[.int 38], vm := .none },
  { cls := 10, slots := #[.int 39], vm := .none },
  { cls := 10, slots := #[.int 40], vm := .none },
  { cls := 10, slots := #[.int 41], vm := .none },
  { cls := 10, slots := #[.int 42], vm := .none },
  { cls := 10, slots := #[.int 43], vm := .none },
  { cls := 10, slots := #[.int 44], vm := .none },
  { cls := 10, slots := #[.int 45], vm := .none },
  { cls := 10, slots := #[.int 46], vm := .none },
  { cls := 10, slots := #[.int 47], vm := .none },
  { cls := 10, slots := #[.int 48], vm := .none },
  { cls := 10, slots := #[.int 49], vm := .none },
  { cls := 10, slots := #[.int 50], vm := .none },
  { cls := 10, slots := #[.int 51], vm := .none },
  { cls := 10, slots := #[.int 52], vm := .none },
  { cls := 10, slots := #[.int 53], vm := .none },
  { cls := 10, slots := #[.int 54], vm := .none },
  { cls := 10, slots := #[.int 55], vm := .none },
  { cls := 10, slots := #[.int 56], vm := .none },
  { cls := 10, slots := #[.int 57], vm := .none },
  { cls := 10, slots := #[.int 58], vm := .none },
  { cls := 10, slots := #[.int 59], vm := .none },
  { cls := 10, slots := #[.int 60], vm := .none },
  { cls := 10, slots := #[.int 61], vm := .none },
  { cls := 10, slots := #[.int 62], vm := .none },
  { cls := 10, slots := #[.int 63], vm := .none },
  { cls := 10, slots := #[.int 64], vm := .none },
  { cls := 10, slots := #[.int 65], vm := .none },
  { cls := 10, slots := #[.int 66], vm := .none },
  { cls := 10, slots := #[.int 67], vm := .none },
  { cls := 10, slots := #[.int 68], vm := .none },
  { cls := 10, slots := #[.int 69], vm := .none },
  { cls := 10, slots := #[.int 70], vm := .none },
  { cls := 10, slots := #[.int 71], vm := .none },
  { cls := 10, slots := #[.int 72], vm := .none },
  { cls := 10, slots := #[.int 73], vm := .none },
  { cls := 10, slots := #[.int 74], vm := .none },
  { cls := 10, slots := #[.int 75], vm := .none },
  { cls := 10, slots := #[.int 76], vm := .none },
  { cls := 10, slots := #[.int 77], vm := .none },
  { cls := 10, slots := #[.int 78], vm := .none },
  { cls := 10, slots := #[.int 79], vm := .none },
  { cls := 10, slots := #[.int 80], vm := .none },
  { cls := 10, slots := #[.int 81], vm := .none },
  { cls := 10, slots := #[.int 82], vm := .none },
  { cls := 10, slots := #[.int 83], vm := .none },
  { cls := 10, slots := #[.int 84], vm := .none },
  { cls := 10, slots := #[.int 85], vm := .none },
  { cls := 10, slots := #[.int 86], vm := .none },
  { cls := 10, slots := #[.int 87], vm := .none },
  { cls := 10, slots := #[.int 88], vm := .none },
  { cls := 10, slots := #[.int 89], vm := .none },
  { cls := 10, slots := #[.int 90], vm := .none },
  { cls := 10, slots := #[.int 91], vm := .none },
  { cls := 10, slots := #[.int 92], vm := .none },
  { cls := 10, slots := #[.int 93], vm := .none },
  { cls := 10, slots := #[.int 94], vm := .none },
  { cls := 10, slots := #[.int 95], vm := .none },
  { cls := 10, slots := #[.int 96], vm := .none },
  { cls := 10, slots := #[.int 97], vm := .none },
  { cls := 10, slots := #[.int 98], vm := .none },
  { cls := 10, slots := #[.int 99], vm := .none },
  { cls := 10, slots := #[.int 100], vm := .none },
  { cls := 10, slots := #[.int 101], vm := .none },
  { cls := 10, slots := #[.int 102], vm := .none },
  { cls := 10, slots := #[.int 103], vm := .none },
  { cls := 10, slots := #[.int 104], vm := .none },
  { cls := 10, slots := #[.int 105], vm := .none },
  { cls := 10, slots := #[.int 106], vm := .none },
  { cls := 10, slots := #[.int 107], vm := .none },
  { cls := 10, slots := #[.int 108], vm := .none },
  { cls := 10, slots := #[.int 109], vm := .none },
  { cls := 10, slots := #[.int 110], vm := .none },
  { cls := 10, slots := #[.int 111], vm := .none },
  { cls := 10, slots := #[.int 112], vm := .none },
  { cls := 10, slots := #[.int 113], vm := .none },
  { cls := 10, slots := #[.int 114], vm := .none },
  { cls := 10, slots := #[.int 115], vm := .none },
  { cls := 10, slots := #[.int 116], vm := .none },
  { cls := 10, slots := #[.int 117], vm := .none },
  { cls := 10, slots := #[.int 118], vm := .none },
  { cls := 10, slots := #[.int 119], vm := .none },
  { cls := 10, slots := #[.int 120], vm := .none },
  { cls := 10, slots := #[.int 121], vm := .none },
  { cls := 10, slots := #[.int 122], vm := .none },
  { cls := 10, slots := #[.int 123], vm := .none },
  { cls := 10, slots := #[.int 124], vm := .none },
  { cls := 10, slots := #[.int 125], vm := .none },
  { cls := 10, slots := #[.int 126], vm := .none },
  { cls := 10, slots := #[.int 127], vm := .none }]
def classes : Array Class := #[k0, k1, k2, k3, k4, k5, k6, k7, k8, k9, k10, k11, k12, k13, k14, k15, k16, k17, k18, k19, k20, k21, k22, k23, k24, k25, k26, k27, k28, k29, k30, k31, k32, k33, k34, k35, k36, k37, k38]
def interned : List (Array UInt16 × Addr) := []
def slotsUsed : Nat := 531
def theMethod : MethodId := ⟨1, 3⟩
def args0 : Array Value := #[.int 2, .int 3, .int 1, .int 7, .int 5, .int 3]
def aboutOver (below : List Frame) : State where
  vm := { classes := classes, interned := interned.toArray }
  heap := heap
  slotsUsed := slotsUsed
  threads := #[{ frames := .invoking theMethod args0 :: below }]
def below0 : List Frame := [.native { method := ⟨0, 0⟩, args := #[] }]
def about1 : State := aboutOver below0
def p0 : Program := .bare "" "" ""
def e0 : Env := launch0.env 0 0 0
theorem w_frames : about1.frames = Frame.invoking theMethod args0 :: below0 := rfl
set_option maxRecDepth 65536 in
theorem w_args : argsFit about1.vm theMethod args0 = true := by decide +kernel
set_option maxRecDepth 65536 in
theorem w_heap : heapFits about1 = true := by decide +kernel
set_option maxRecDepth 65536 in
theorem w_runnable : about1.curStatus? = some .runnable := by decide +kernel
set_option maxRecDepth 65536 in
theorem w_alone : about1.alone = true := by decide +kernel
set_option maxRecDepth 65536 in
theorem w_named : about1.methodNamed? x = some theMethod := by decide +kernel
set_option maxRecDepth 65536 in
theorem w_hears : about1.hears theMethod below0 = true := by decide +kernel
set_option maxRecDepth 65536 in
theorem w_ripe : about1.ripe theMethod args0 below0 = true := by decide +kernel
theorem w_running : about1.status = .running := rfl
set_option maxRecDepth 65536 in
theorem w_room : about1.hasRoom e0.platform room_1 = true :=
  launch0.hasRoom_least _ room_1 (by decide +kernel) (by decide +kernel) (by decide +kernel) (by decide +kernel) (by decide +kernel) (by decide +kernel)
theorem allAtoms_all (ts : List Jvm.Cond) (a : Array Jvm.Value) (st : Jvm.State) : (allAtoms ts).before a st = ts.all (fun c => c.before a st) := by
  induction ts with
  | nil => rfl
  | cons c t ih =>
    show (Jvm.Cond.and c (allAtoms t)).before a st = _
    rw [Jvm.Cond.before_and, ih, List.all_cons]
def words1 : List Jvm.Cond := Jvm.Cond.code x code maxLocals ret :: tables_1
/-- a 'code' word, met by the world's own term for the bytes: nothing is compared byte by byte -/
theorem code_word {y : MethodName} {bytes : ByteArray} {mx : Nat} {rt : Option FieldType} {a : Array Value} {s : State} {m : MethodId} {meth : Method} {c : Code} (h1 : s.methodNamed? y = some m) (h2 : s.vm.method? m = some meth) (h3 : meth.code = some c) (h4 : c.code = bytes)
    (h5 : (c.maxLocals == mx && c.exceptionTable.isEmpty && decide (c.maxStack ≤ mostOperands) && decide (meth.sig.returnType = rt) && !meth.locks && decide (parseMethodDescriptor y.desc = some meth.sig)) = true) : (Jvm.Cond.code y bytes mx rt).before a s = true := by
  simp only [Bool.and_eq_true, beq_iff_eq, Bool.not_eq_true', decide_eq_true_eq] at h5
  obtain ⟨⟨⟨⟨⟨g1, g2⟩, g3⟩, g4⟩, g5⟩, g6⟩ := h5
  simp [Cond.before, Cond.holds, Cond.value, h1, h2, h3, h4, g1, g2, g3, g4, g5, g6]
def isCode : Jvm.Cond → Bool
  | .code _ _ _ _ => true
  | _ => false
theorem all_split {L : List Jvm.Cond} {P : Jvm.Cond → Bool} (h1 : L.all (fun c => isCode c || P c) = true) (h2 : ∀ c ∈ L.filter isCode, P c = true) : L.all P = true := by
  refine List.all_eq_true.mpr fun c hc => ?_
  have h := List.all_eq_true.mp h1 c hc
  rcases Bool.eq_false_or_eq_true (isCode c) with hi | hi
  · exact h2 c (List.mem_filter.mpr ⟨hc, hi⟩)
  · simpa [hi] using h
set_option maxRecDepth 65536 in
theorem w_c0 : (Jvm.Cond.code x code maxLocals ret).before args0 about1 = true := code_word (m := ⟨1, 3⟩) (meth := k1m3) (c := k1c3) (by decide +kernel) rfl rfl rfl (by decide +kernel)
set_option maxRecDepth 65536 in
theorem w_c1 : (Jvm.Cond.code ({ cls := "com/example/patient_tape/patienttape/JsonObjectValuesPinLaw", name := "str", desc := "(II)Ljava/lang/String;" } : Jvm.MethodName) method_2_code (5 : Nat) (Option.some (Jvm.ClassFile.FieldType.object "java/lang/String"))).before args0 about1 = true := code_word (m := ⟨1, 1⟩) (meth := k1m1) (c := k1c1) (by decide +kernel) rfl rfl rfl (by decide +kernel)
set_option maxRecDepth 65536 in
theorem w_c2 : (Jvm.Cond.code ({ cls := "java/lang/String", name := "<init>", desc := "([C)V" } : Jvm.MethodName) jdk_42_method_3_code (2 : Nat) (Option.none : Option Jvm.ClassFile.FieldType)).before args0 about1 = true := code_word (m := ⟨7, 1⟩) (meth := k7m1) (c := k7c1) (by decide +kernel) rfl rfl rfl (by decide +kernel)
set_option maxRecDepth 65536 in
theorem w_c3 : (Jvm.Cond.code ({ cls := "java/lang/String", name := "<init>", desc := "([CIILjava/lang/Void;)V" } : Jvm.MethodName) jdk_42_method_149_code (6 : Nat) (Option.none : Option Jvm.ClassFile.FieldType)).before args0 about1 = true := code_word (m := ⟨7, 3⟩) (meth := k7m3) (c := k7c3) (by decide +kernel) rfl rfl rfl (by decide +kernel)
set_option maxRecDepth 65536 in
theorem w_c4 : (Jvm.Cond.code ({ cls := "java/lang/Object", name := "<init>", desc := "()V" } : Jvm.MethodName) object_method_1_code (1 : Nat) (Option.none : Option Jvm.ClassFile.FieldType)).before args0 about1 = true := code_word (m := ⟨0, 0⟩) (meth := k0m0) (c := k0c0) (by decide +kernel) rfl rfl rfl (by decide +kernel)
set_option maxRecDepth 65536 in
theorem w_c5 : (Jvm.Cond.code ({ cls := "com/example/patient_tape/patienttape/JsonObjectValuesPinLaw", name := "name", desc := "(III)Ljava/lang/String;" } : Jvm.MethodName) method_3_code (3 : Nat) (Option.some (Jvm.ClassFile.FieldType.object "java/lang/String"))).before args0 about1 = true := code_word (m := ⟨1, 2⟩) (meth := k1m2) (c := k1c2) (by decide +kernel) rfl rfl rfl (by decide +kernel)
set_option maxRecDepth 65536 in
theorem w_c6 : (Jvm.Cond.code ({ cls := "java/lang/StringUTF16", name := "compress", desc := "([CII)[B" } : Jvm.MethodName) jdk_52_method_16_code (6 : Nat) (Option.some (Jvm.ClassFile.FieldType.array Jvm.ClassFile.FieldType.byte))).before args0 about1 = true := code_word (m := ⟨8, 2⟩) (meth := k8m2) (c := k8c2) (by decide +kernel) rfl rfl rfl (by decide +kernel)
set_option maxRecDepth 65536 in
theorem w_c7 : (Jvm.Cond.code ({ cls := "java/lang/StringUTF16", name := "compress", desc := "([CI[BII)I" } : Jvm.MethodName) jdk_52_method_21_code (7 : Nat) (Option.some Jvm.ClassFile.FieldType.int)).before args0 about1 = true := code_word (m := ⟨8, 3⟩) (meth := k8m3) (c := k8c3) (by decide +kernel) rfl rfl rfl (by decide +kernel)
set_option maxRecDepth 65536 in
theorem w_c8 : (Jvm.Cond.code ({ cls := "java/lang/StringUTF16", name := "coderFromArrayLen", desc := "([BI)B" } : Jvm.MethodName) jdk_52_method_15_code (2 : Nat) (Option.some Jvm.ClassFile.FieldType.byte)).before args0 about1 = true := code_word (m := ⟨8, 1⟩) (meth := k8m1) (c := k8c1) (by decide +kernel) rfl rfl rfl (by decide +kernel)
set_option maxRecDepth 65536 in
theorem w_c9 : (Jvm.Cond.code ({ cls := "java/lang/Integer", name := "valueOf", desc := "(I)Ljava/lang/Integer;" } : Jvm.MethodName) jdk_33_method_22_code (1 : Nat) (Option.some (Jvm.ClassFile.FieldType.object "java/lang/Integer"))).before args0 about1 = true := code_word (m := ⟨10, 0⟩) (meth := k10m0) (c := k10c0) (by decide +kernel) rfl rfl rfl (by decide +kernel)
set_option maxRecDepth 65536 in
theorem w_c10 : (Jvm.Cond.code ({ cls := "java/util/ArrayList", name := "<init>", desc := "()V" } : Jvm.MethodName) jdk_38_method_2_code (1 : Nat) (Option.none : Option Jvm.ClassFile.FieldType)).before args0 about1 = true := code_word (m := ⟨20, 0⟩) (meth := k20m0) (c := k20c0) (by decide +kernel) rfl rfl rfl (by decide +kernel)
set_option maxRecDepth 65536 in
theorem w_c11 : (Jvm.Cond.code ({ cls := "java/util/AbstractList", name := "<init>", desc := "()V" } : Jvm.MethodName) jdk_39_method_1_code (1 : Nat) (Option.none : Option Jvm.ClassFile.FieldType)).before args0 about1 = true := code_word (m := ⟨17, 0⟩) (meth := k17m0) (c := k17c0) (by decide +kernel) rfl rfl rfl (by decide +kernel)
set_option maxRecDepth 65536 in
theorem w_c12 : (Jvm.Cond.code ({ cls := "java/util/AbstractCollection", name := "<init>", desc := "()V" } : Jvm.MethodName) jdk_22_method_1_code (1 : Nat) (Option.none : Option Jvm.ClassFile.FieldType)).before args0 about1 = true := code_word (m := ⟨14, 0⟩) (meth := k14m0) (c := k14c0) (by decide +kernel) rfl rfl rfl (by decide +kernel)
set_option maxRecDepth 65536 in
theorem w_c13 : (Jvm.Cond.code ({ cls := "com/example/patient_tape/patienttape/StrictJson$Member", name := "<init>", desc := "(Ljava/lang/String;Ljava/lang/Object;)V" } : Jvm.MethodName) prog_26_method_1_code (3 : Nat) (Option.none : Option Jvm.ClassFile.FieldType)).before args0 about1 = true := code_word (m := ⟨22, 0⟩) (meth := k22m0) (c := k22c0) (by decide +kernel) rfl rfl rfl (by decide +kernel)
set_option maxRecDepth 65536 in
theorem w_c14 : (Jvm.Cond.code ({ cls := "java/lang/Record", name := "<init>", desc := "()V" } : Jvm.MethodName) jdk_30_method_1_code (1 : Nat) (Option.none : Option Jvm.ClassFile.FieldType)).before args0 about1 = true := code_word (m := ⟨21, 0⟩) (meth := k21m0) (c := k21c0) (by decide +kernel) rfl rfl rfl (by decide +kernel)
set_option maxRecDepth 65536 in
theorem w_c15 : (Jvm.Cond.code ({ cls := "java/util/ArrayList", name := "add", desc := "(Ljava/lang/Object;)Z" } : Jvm.MethodName) jdk_38_method_25_code (2 : Nat) (Option.some Jvm.ClassFile.FieldType.boolean)).before args0 about1 = true := code_word (m := ⟨20, 7⟩) (meth := k20m7) (c := k20c7) (by decide +kernel) rfl rfl rfl (by decide +kernel)
set_option maxRecDepth 65536 in
theorem w_c16 : (Jvm.Cond.code ({ cls := "java/util/ArrayList", name := "add", desc := "(Ljava/lang/Object;[Ljava/lang/Object;I)V" } : Jvm.MethodName) jdk_38_method_24_code (4 : Nat) (Option.none : Option Jvm.ClassFile.FieldType)).before args0 about1 = true := code_word (m := ⟨20, 6⟩) (meth := k20m6) (c := k20c6) (by decide +kernel) rfl rfl rfl (by decide +kernel)
set_option maxRecDepth 65536 in
theorem w_c17 : (Jvm.Cond.code ({ cls := "java/util/ArrayList", name := "grow", desc := "()[Ljava/lang/Object;" } : Jvm.MethodName) jdk_38_method_7_code (1 : Nat) (Option.some (Jvm.ClassFile.FieldType.array (Jvm.ClassFile.FieldType.object "java/lang/Object")))).before args0 about1 = true := code_word (m := ⟨20, 2⟩) (meth := k20m2) (c := k20c2) (by decide +kernel) rfl rfl rfl (by decide +kernel)
set_option maxRecDepth 65536 in
theorem w_c18 : (Jvm.Cond.code ({ cls := "java/util/ArrayList", name := "grow", desc := "(I)[Ljava/lang/Object;" } : Jvm.MethodName) jdk_38_method_6_code (4 : Nat) (Option.some (Jvm.ClassFile.FieldType.array (Jvm.ClassFile.FieldType.object "java/lang/Object")))).before args0 about1 = true := code_word (m := ⟨20, 1⟩) (meth := k20m1) (c := k20c1) (by decide +kernel) rfl rfl rfl (by decide +kernel)
set_option maxRecDepth 65536 in
theorem w_c19 : (Jvm.Cond.code ({ cls := "java/lang/Math", name := "max", desc := "(II)I" } : Jvm.MethodName) jdk_29_method_65_code (2 : Nat) (Option.some Jvm.ClassFile.FieldType.int)).before args0 about1 = true := code_word (m := ⟨23, 1⟩) (meth := k23m1) (c := k23c1) (by decide +kernel) rfl rfl rfl (by decide +kernel)
set_option maxRecDepth 65536 in
theorem w_c20 : (Jvm.Cond.code ({ cls := "com/example/patient_tape/patienttape/StrictJson$JsonObject", name := "<init>", desc := "(Ljava/util/List;)V" } : Jvm.MethodName) prog_24_method_1_code (2 : Nat) (Option.none : Option Jvm.ClassFile.FieldType)).before args0 about1 = true := code_word (m := ⟨24, 0⟩) (meth := k24m0) (c := k24c0) (by decide +kernel) rfl rfl rfl (by decide +kernel)
set_option maxRecDepth 65536 in
theorem w_c21 : (Jvm.Cond.code ({ cls := "com/example/patient_tape/patienttape/StrictJson$JsonObject", name := "values", desc := "(Ljava/lang/String;)Ljava/util/List;" } : Jvm.MethodName) prog_24_method_2_code (5 : Nat) (Option.some (Jvm.ClassFile.FieldType.object "java/util/List"))).before args0 about1 = true := code_word (m := ⟨24, 1⟩) (meth := k24m1) (c := k24c1) (by decide +kernel) rfl rfl rfl (by decide +kernel)
set_option maxRecDepth 65536 in
theorem w_c22 : (Jvm.Cond.code ({ cls := "java/util/ArrayList", name := "iterator", desc := "()Ljava/util/Iterator;" } : Jvm.MethodName) jdk_38_method_55_code (1 : Nat) (Option.some (Jvm.ClassFile.FieldType.object "java/util/Iterator"))).before args0 about1 = true := code_word (m := ⟨20, 8⟩) (meth := k20m8) (c := k20c8) (by decide +kernel) rfl rfl rfl (by decide +kernel)
set_option maxRecDepth 65536 in
theorem w_c23 : (Jvm.Cond.code ({ cls := "java/util/ArrayList$Itr", name := "<init>", desc := "(Ljava/util/ArrayList;)V" } : Jvm.MethodName) jdk_49_method_1_code (2 : Nat) (Option.none : Option Jvm.ClassFile.FieldType)).before args0 about1 = true := code_word (m := ⟨26, 0⟩) (meth := k26m0) (c := k26c0) (by decide +kernel) rfl rfl rfl (by decide +kernel)
set_option maxRecDepth 65536 in
theorem w_c24 : (Jvm.Cond.code ({ cls := "java/util/ArrayList$Itr", name := "hasNext", desc := "()Z" } : Jvm.MethodName) jdk_49_method_2_code (1 : Nat) (Option.some Jvm.ClassFile.FieldType.boolean)).before args0 about1 = true := code_word (m := ⟨26, 1⟩) (meth := k26m1) (c := k26c1) (by decide +kernel) rfl rfl rfl (by decide +kernel)
set_option maxRecDepth 65536 in
theorem w_c25 : (Jvm.Cond.code ({ cls := "java/util/ArrayList$Itr", name := "next", desc := "()Ljava/lang/Object;" } : Jvm.MethodName) jdk_49_method_3_code (3 : Nat) (Option.some (Jvm.ClassFile.FieldType.object "java/lang/Object"))).before args0 about1 = true := code_word (m := ⟨26, 2⟩) (meth := k26m2) (c := k26c2) (by decide +kernel) rfl rfl rfl (by decide +kernel)
set_option maxRecDepth 65536 in
theorem w_c26 : (Jvm.Cond.code ({ cls := "java/util/ArrayList$Itr", name := "checkForComodification", desc := "()V" } : Jvm.MethodName) jdk_49_method_6_code (1 : Nat) (Option.none : Option Jvm.ClassFile.FieldType)).before args0 about1 = true := code_word (m := ⟨26, 3⟩) (meth := k26m3) (c := k26c3) (by decide +kernel) rfl rfl rfl (by decide +kernel)
set_option maxRecDepth 65536 in
theorem w_c27 : (Jvm.Cond.code ({ cls := "com/example/patient_tape/patienttape/StrictJson$Member", name := "name", desc := "()Ljava/lang/String;" } : Jvm.MethodName) prog_26_method_5_code (1 : Nat) (Option.some (Jvm.ClassFile.FieldType.object "java/lang/String"))).before args0 about1 = true := code_word (m := ⟨22, 1⟩) (meth := k22m1) (c := k22c1) (by decide +kernel) rfl rfl rfl (by decide +kernel)
set_option maxRecDepth 65536 in
theorem w_c28 : (Jvm.Cond.code ({ cls := "java/lang/String", name := "equals", desc := "(Ljava/lang/Object;)Z" } : Jvm.MethodName) jdk_42_method_66_code (3 : Nat) (Option.some Jvm.ClassFile.FieldType.boolean)).before args0 about1 = true := code_word (m := ⟨7, 2⟩) (meth := k7m2) (c := k7c2) (by decide +kernel) rfl rfl rfl (by decide +kernel)
set_option maxRecDepth 65536 in
theorem w_c29 : (Jvm.Cond.code ({ cls := "java/lang/StringLatin1", name := "equals", desc := "([B[B)Z" } : Jvm.MethodName) jdk_43_method_13_code (3 : Nat) (Option.some Jvm.ClassFile.FieldType.boolean)).before args0 about1 = true := code_word (m := ⟨27, 1⟩) (meth := k27m1) (c := k27c1) (by decide +kernel) rfl rfl rfl (by decide +kernel)
set_option maxRecDepth 65536 in
theorem w_c30 : (Jvm.Cond.code ({ cls := "java/util/ArrayList", name := "size", desc := "()I" } : Jvm.MethodName) jdk_38_method_8_code (1 : Nat) (Option.some Jvm.ClassFile.FieldType.int)).before args0 about1 = true := code_word (m := ⟨20, 3⟩) (meth := k20m3) (c := k20c3) (by decide +kernel) rfl rfl rfl (by decide +kernel)
set_option maxRecDepth 65536 in
theorem w_c31 : (Jvm.Cond.code ({ cls := "com/example/patient_tape/patienttape/StrictJson$Member", name := "value", desc := "()Ljava/lang/Object;" } : Jvm.MethodName) prog_26_method_6_code (1 : Nat) (Option.some (Jvm.ClassFile.FieldType.object "java/lang/Object"))).before args0 about1 = true := code_word (m := ⟨22, 2⟩) (meth := k22m2) (c := k22c2) (by decide +kernel) rfl rfl rfl (by decide +kernel)
set_option maxRecDepth 65536 in
theorem w_c32 : (Jvm.Cond.code ({ cls := "java/util/ArrayList", name := "get", desc := "(I)Ljava/lang/Object;" } : Jvm.MethodName) jdk_38_method_20_code (2 : Nat) (Option.some (Jvm.ClassFile.FieldType.object "java/lang/Object"))).before args0 about1 = true := code_word (m := ⟨20, 5⟩) (meth := k20m5) (c := k20c5) (by decide +kernel) rfl rfl rfl (by decide +kernel)
set_option maxRecDepth 65536 in
theorem w_c33 : (Jvm.Cond.code ({ cls := "java/util/Objects", name := "checkIndex", desc := "(II)I" } : Jvm.MethodName) jdk_31_method_17_code (2 : Nat) (Option.some Jvm.ClassFile.FieldType.int)).before args0 about1 = true := code_word (m := ⟨28, 1⟩) (meth := k28m1) (c := k28c1) (by decide +kernel) rfl rfl rfl (by decide +kernel)
set_option maxRecDepth 65536 in
theorem w_c34 : (Jvm.Cond.code ({ cls := "jdk/internal/util/Preconditions", name := "checkIndex", desc := "(IILjava/util/function/BiFunction;)I" } : Jvm.MethodName) jdk_41_method_11_code (3 : Nat) (Option.some Jvm.ClassFile.FieldType.int)).before args0 about1 = true := code_word (m := ⟨29, 1⟩) (meth := k29m1) (c := k29c1) (by decide +kernel) rfl rfl rfl (by decide +kernel)
set_option maxRecDepth 65536 in
theorem w_c35 : (Jvm.Cond.code ({ cls := "java/util/ArrayList", name := "elementData", desc := "(I)Ljava/lang/Object;" } : Jvm.MethodName) jdk_38_method_18_code (2 : Nat) (Option.some (Jvm.ClassFile.FieldType.object "java/lang/Object"))).before args0 about1 = true := code_word (m := ⟨20, 4⟩) (meth := k20m4) (c := k20c4) (by decide +kernel) rfl rfl rfl (by decide +kernel)
def codes1 : List Jvm.Cond := [Jvm.Cond.code x code maxLocals ret, Jvm.Cond.code ({ cls := "com/example/patient_tape/patienttape/JsonObjectValuesPinLaw", name := "str", desc := "(II)Ljava/lang/String;" } : Jvm.MethodName) method_2_code (5 : Nat) (Option.some (Jvm.ClassFile.FieldType.object "java/lang/String")), Jvm.Cond.code ({ cls := "java/lang/String", name := "<init>", desc := "([C)V" } : Jvm.MethodName) jdk_42_method_3_code (2 : Nat) (Option.none : Option Jvm.ClassFile.FieldType), Jvm.Cond.code ({ cls := "java/lang/String", name := "<init>", desc := "([CIILjava/lang/Void;)V" } : Jvm.MethodName) jdk_42_method_149_code (6 : Nat) (Option.none : Option Jvm.ClassFile.FieldType), Jvm.Cond.code ({ cls := "java/lang/Object", name := "<init>", desc := "()V" } : Jvm.MethodName) object_method_1_code (1 : Nat) (Option.none : Option Jvm.ClassFile.FieldType), Jvm.Cond.code ({ cls := "com/example/patient_tape/patienttape/JsonObjectValuesPinLaw", name := "name", desc := "(III)Ljava/lang/String;" } : Jvm.MethodName) method_3_code (3 : Nat) (Option.some (Jvm.ClassFile.FieldType.object "java/lang/String")), Jvm.Cond.code ({ cls := "java/lang/StringUTF16", name := "compress", desc := "([CII)[B" } : Jvm.MethodName) jdk_52_method_16_code (6 : Nat) (Option.some (Jvm.ClassFile.FieldType.array Jvm.ClassFile.FieldType.byte)), Jvm.Cond.code ({ cls := "java/lang/StringUTF16", name := "compress", desc := "([CI[BII)I" } : Jvm.MethodName) jdk_52_method_21_code (7 : Nat) (Option.some Jvm.ClassFile.FieldType.int), Jvm.Cond.code ({ cls := "java/lang/StringUTF16", name := "coderFromArrayLen", desc := "([BI)B" } : Jvm.MethodName) jdk_52_method_15_code (2 : Nat) (Option.some Jvm.ClassFile.FieldType.byte), Jvm.Cond.code ({ cls := "java/lang/Integer", name := "valueOf", desc := "(I)Ljava/lang/Integer;" } : Jvm.MethodName) jdk_33_method_22_code (1 : Nat) (Option.some (Jvm.ClassFile.FieldType.object "java/lang/Integer")), Jvm.Cond.code ({ cls := "java/util/ArrayList", name := "<init>", desc := "()V" } : Jvm.MethodName) jdk_38_method_2_code (1 : Nat) (Option.none : Option Jvm.ClassFile.FieldType), Jvm.Cond.code ({ cls := "java/util/AbstractList", name := "<init>", desc := "()V" } : Jvm.MethodName) jdk_39_method_1_code (1 : Nat) (Option.none : Option Jvm.ClassFile.FieldType), Jvm.Cond.code ({ cls := "java/util/AbstractCollection", name := "<init>", desc := "()V" } : Jvm.MethodName) jdk_22_method_1_code (1 : Nat) (Option.none : Option Jvm.ClassFile.FieldType), Jvm.Cond.code ({ cls := "com/example/patient_tape/patienttape/StrictJson$Member", name := "<init>", desc := "(Ljava/lang/String;Ljava/lang/Object;)V" } : Jvm.MethodName) prog_26_method_1_code (3 : Nat) (Option.none : Option Jvm.ClassFile.FieldType), Jvm.Cond.code ({ cls := "java/lang/Record", name := "<init>", desc := "()V" } : Jvm.MethodName) jdk_30_method_1_code (1 : Nat) (Option.none : Option Jvm.ClassFile.FieldType), Jvm.Cond.code ({ cls := "java/util/ArrayList", name := "add", desc := "(Ljava/lang/Object;)Z" } : Jvm.MethodName) jdk_38_method_25_code (2 : Nat) (Option.some Jvm.ClassFile.FieldType.boolean), Jvm.Cond.code ({ cls := "java/util/ArrayList", name := "add", desc := "(Ljava/lang/Object;[Ljava/lang/Object;I)V" } : Jvm.MethodName) jdk_38_method_24_code (4 : Nat) (Option.none : Option Jvm.ClassFile.FieldType), Jvm.Cond.code ({ cls := "java/util/ArrayList", name := "grow", desc := "()[Ljava/lang/Object;" } : Jvm.MethodName) jdk_38_method_7_code (1 : Nat) (Option.some (Jvm.ClassFile.FieldType.array (Jvm.ClassFile.FieldType.object "java/lang/Object"))), Jvm.Cond.code ({ cls := "java/util/ArrayList", name := "grow", desc := "(I)[Ljava/lang/Object;" } : Jvm.MethodName) jdk_38_method_6_code (4 : Nat) (Option.some (Jvm.ClassFile.FieldType.array (Jvm.ClassFile.FieldType.object "java/lang/Object"))), Jvm.Cond.code ({ cls := "java/lang/Math", name := "max", desc := "(II)I" } : Jvm.MethodName) jdk_29_method_65_code (2 : Nat) (Option.some Jvm.ClassFile.FieldType.int), Jvm.Cond.code ({ cls := "com/example/patient_tape/patienttape/StrictJson$JsonObject", name := "<init>", desc := "(Ljava/util/List;)V" } : Jvm.MethodName) prog_24_method_1_code (2 : Nat) (Option.none : Option Jvm.ClassFile.FieldType), Jvm.Cond.code ({ cls := "com/example/patient_tape/patienttape/StrictJson$JsonObject", name := "values", desc := "(Ljava/lang/String;)Ljava/util/List;" } : Jvm.MethodName) prog_24_method_2_code (5 : Nat) (Option.some (Jvm.ClassFile.FieldType.object "java/util/List")), Jvm.Cond.code ({ cls := "java/util/ArrayList", name := "iterator", desc := "()Ljava/util/Iterator;" } : Jvm.MethodName) jdk_38_method_55_code (1 : Nat) (Option.some (Jvm.ClassFile.FieldType.object "java/util/Iterator")), Jvm.Cond.code ({ cls := "java/util/ArrayList$Itr", name := "<init>", desc := "(Ljava/util/ArrayList;)V" } : Jvm.MethodName) jdk_49_method_1_code (2 : Nat) (Option.none : Option Jvm.ClassFile.FieldType), Jvm.Cond.code ({ cls := "java/util/ArrayList$Itr", name := "hasNext", desc := "()Z" } : Jvm.MethodName) jdk_49_method_2_code (1 : Nat) (Option.some Jvm.ClassFile.FieldType.boolean), Jvm.Cond.code ({ cls := "java/util/ArrayList$Itr", name := "next", desc := "()Ljava/lang/Object;" } : Jvm.MethodName) jdk_49_method_3_code (3 : Nat) (Option.some (Jvm.ClassFile.FieldType.object "java/lang/Object")), Jvm.Cond.code ({ cls := "java/util/ArrayList$Itr", name := "checkForComodification", desc := "()V" } : Jvm.MethodName) jdk_49_method_6_code (1 : Nat) (Option.none : Option Jvm.ClassFile.FieldType), Jvm.Cond.code ({ cls := "com/example/patient_tape/patienttape/StrictJson$Member", name := "name", desc := "()Ljava/lang/String;" } : Jvm.MethodName) prog_26_method_5_code (1 : Nat) (Option.some (Jvm.ClassFile.FieldType.object "java/lang/String")), Jvm.Cond.code ({ cls := "java/lang/String", name := "equals", desc := "(Ljava/lang/Object;)Z" } : Jvm.MethodName) jdk_42_method_66_code (3 : Nat) (Option.some Jvm.ClassFile.FieldType.boolean), Jvm.Cond.code ({ cls := "java/lang/StringLatin1", name := "equals", desc := "([B[B)Z" } : Jvm.MethodName) jdk_43_method_13_code (3 : Nat) (Option.some Jvm.ClassFile.FieldType.boolean), Jvm.Cond.code ({ cls := "java/util/ArrayList", name := "size", desc := "()I" } : Jvm.MethodName) jdk_38_method_8_code (1 : Nat) (Option.some Jvm.ClassFile.FieldType.int), Jvm.Cond.code ({ cls := "com/example/patient_tape/patienttape/StrictJson$Member", name := "value", desc := "()Ljava/lang/Object;" } : Jvm.MethodName) prog_26_method_6_code (1 : Nat) (Option.some (Jvm.ClassFile.FieldType.object "java/lang/Object")), Jvm.Cond.code ({ cls := "java/util/ArrayList", name := "get", desc := "(I)Ljava/lang/Object;" } : Jvm.MethodName) jdk_38_method_20_code (2 : Nat) (Option.some (Jvm.ClassFile.FieldType.object "java/lang/Object")), Jvm.Cond.code ({ cls := "java/util/Objects", name := "checkIndex", desc := "(II)I" } : Jvm.MethodName) jdk_31_method_17_code (2 : Nat) (Option.some Jvm.ClassFile.FieldType.int), Jvm.Cond.code ({ cls := "jdk/internal/util/Preconditions", name := "checkIndex", desc := "(IILjava/util/function/BiFunction;)I" } : Jvm.MethodName) jdk_41_method_11_code (3 : Nat) (Option.some Jvm.ClassFile.FieldType.int), Jvm.Cond.code ({ cls := "java/util/ArrayList", name := "elementData", desc := "(I)Ljava/lang/Object;" } : Jvm.MethodName) jdk_38_method_18_code (2 : Nat) (Option.some (Jvm.ClassFile.FieldType.object "java/lang/Object"))]
set_option maxRecDepth 65536 in
theorem codes_eq : words1.filter isCode = codes1 := rfl
theorem w_codes : ∀ c ∈ words1.filter isCode, c.before args0 about1 = true := by
  rw [codes_eq]
  intro c hc
  simp only [codes1, List.mem_cons, List.not_mem_nil, or_false] at hc
  rcases hc with rfl | rfl | rfl | rfl | rfl | rfl | rfl | rfl | rfl | rfl | rfl | rfl | rfl | rfl | rfl | rfl | rfl | rfl | rfl | rfl | rfl | rfl | rfl | rfl | rfl | rfl | rfl | rfl | rfl | rfl | rfl | rfl | rfl | rfl | rfl | rfl
  · exact w_c0
  · exact w_c1
  · exact w_c2
  · exact w_c3
  · exact w_c4
  · exact w_c5
  · exact w_c6
  · exact w_c7
  · exact w_c8
  · exact w_c9
  · exact w_c10
  · exact w_c11
  · exact w_c12
  · exact w_c13
  · exact w_c14
  · exact w_c15
  · exact w_c16
  · exact w_c17
  · exact w_c18
  · exact w_c19
  · exact w_c20
  · exact w_c21
  · exact w_c22
  · exact w_c23
  · exact w_c24
  · exact w_c25
  · exact w_c26
  · exact w_c27
  · exact w_c28
  · exact w_c29
  · exact w_c30
  · exact w_c31
  · exact w_c32
  · exact w_c33
  · exact w_c34
  · exact w_c35
set_option maxRecDepth 65536 in
theorem w_t1 : (words1.take 24).all (fun c => isCode c || c.before args0 about1) = true := by decide +kernel
set_option maxRecDepth 65536 in
theorem w_t2 : ((words1.drop 24).take 24).all (fun c => isCode c || c.before args0 about1) = true := by decide +kernel
set_option maxRecDepth 65536 in
theorem w_t3 : (((words1.drop 24).drop 24).take 24).all (fun c => isCode c || c.before args0 about1) = true := by decide +kernel
set_option maxRecDepth 65536 in
theorem w_t4 : ((((words1.drop 24).drop 24).drop 24).take 24).all (fun c => isCode c || c.before args0 about1) = true := by decide +kernel
set_option maxRecDepth 65536 in
theorem w_t5 : (((((words1.drop 24).drop 24).drop 24).drop 24).take 24).all (fun c => isCode c || c.before args0 about1) = true := by decide +kernel
set_option maxRecDepth 65536 in
theorem w_t6 : ((((((words1.drop 24).drop 24).drop 24).drop 24).drop 24).take 24).all (fun c => isCode c || c.before args0 about1) = true := by decide +kernel
set_option maxRecDepth 65536 in
theorem w_t7 : (((((((words1.drop 24).drop 24).drop 24).drop 24).drop 24).drop 24).take 24).all (fun c => isCode c || c.before args0 about1) = true := by decide +kernel
set_option maxRecDepth 65536 in
theorem w_t8 : ((((((((words1.drop 24).drop 24).drop 24).drop 24).drop 24).drop 24).drop 24).take 24).all (fun c => isCode c || c.before args0 about1) = true := by decide +kernel
set_option maxRecDepth 65536 in
theorem w_t9 : (((((((((words1.drop 24).drop 24).drop 24).drop 24).drop 24).drop 24).drop 24).drop 24).take 24).all (fun c => isCode c || c.before args0 about1) = true := by decide +kernel
set_option maxRecDepth 65536 in
theorem w_t10 : ((((((((((words1.drop 24).drop 24).drop 24).drop 24).drop 24).drop 24).drop 24).drop 24).drop 24).take 24).all (fun c => isCode c || c.before args0 about1) = true := by decide +kernel
set_option maxRecDepth 65536 in
theorem w_t11 : ((((((((((words1.drop 24).drop 24).drop 24).drop 24).drop 24).drop 24).drop 24).drop 24).drop 24).drop 24).all (fun c => isCode c || c.before args0 about1) = true := by decide +kernel
theorem w_tables : (allAtoms (Jvm.Cond.code x code maxLocals ret :: tables_1)).before args0 about1 = true := by
  rw [allAtoms_all]
  show words1.all (fun c => c.before args0 about1) = true
  refine all_split ?_ w_codes
  rw [← List.take_append_drop 24 words1, List.all_append, w_t1, ← List.take_append_drop 24 (words1.drop 24), List.all_append, w_t2, ← List.take_append_drop 24 ((words1.drop 24).drop 24), List.all_append, w_t3, ← List.take_append_drop 24 (((words1.drop 24).drop 24).drop 24), List.all_append, w_t4, ← List.take_append_drop 24 ((((words1.drop 24).drop 24).drop 24).drop 24), List.all_append, w_t5, ← List.take_append_drop 24 (((((words1.drop 24).drop 24).drop 24).drop 24).drop 24), List.all_append, w_t6, ← List.take_append_drop 24 ((((((words1.drop 24).drop 24).drop 24).drop 24).drop 24).drop 24), List.all_append, w_t7, ← List.take_append_drop 24 (((((((words1.drop 24).drop 24).drop 24).drop 24).drop 24).drop 24).drop 24), List.all_append, w_t8, ← List.take_append_drop 24 ((((((((words1.drop 24).drop 24).drop 24).drop 24).drop 24).drop 24).drop 24).drop 24), List.all_append, w_t9, ← List.take_append_drop 24 (((((((((words1.drop 24).drop 24).drop 24).drop 24).drop 24).drop 24).drop 24).drop 24).drop 24), List.all_append, w_t10, w_t11]
  rfl
set_option maxRecDepth 65536 in
theorem w_rest : rest_1_c.before args0 about1 = true := by decide +kernel
set_option maxRecDepth 65536 in
theorem w_case : (Jvm.Cond.and given_1 narrow_1).before args0 about1 = true := by decide +kernel
set_option maxRecDepth 65536 in
theorem w_consts : constsHeld consts_1 about1 := Jvm.Lit.constsHeldB_iff.mp (by decide +kernel)
theorem w_applies : (headSpec (Jvm.Cond.code x code maxLocals ret :: tables_1) room_1).applies x e0.platform about1 = true :=
  (Spec.applies_iff w_frames).mpr ⟨w_running, w_runnable, w_alone, w_named, w_hears, w_ripe, w_room, w_tables⟩
theorem atStart : AtStart classFile x code maxLocals ret World_1 tables_1 room_1 Calls_1 rest_1 Pre_1 launch0 p0 e0 about1 theMethod args0 below0 :=
  ⟨lists_1, trivial, launch0.admits_env _ _ _, launch0.least_env, fairChoices_fair.cas, fairChoices_fair.clock, w_frames, w_args, w_heap, w_applies, ⟨w_consts, trivial⟩, w_rest, w_case⟩
end start1
theorem witness_1 : WitnessClaimed_1 := ⟨start1.p0, start1.e0, start1.about1, start1.theMethod, start1.args0, start1.below0, start1.atStart⟩
end Jvm.Pilot.@@N@@
