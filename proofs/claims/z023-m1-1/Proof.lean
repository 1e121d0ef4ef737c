import JvmDerived
import JvmDerived.Pilot.@@N@@Statement
import JvmDerived.Pilot.@@N@@Code
set_option linter.unusedVariables false
set_option linter.unusedSimpArgs false
@@BLOCK:NumsL.lean.txt@@
namespace Jvm.RoadKit
open Sem ClassFile Op Lib Jvm.Stand Jvm.Free Jvm.LawKit
section New
variable {p : Program} {l : Launch} {e : Env} {R : Room} {s : State} {m : MethodId} {args : Array Value} {below : List Frame} {meth : Method} {c : Code} {T : State} {locs : List Loc} {cells slots : Nat}
theorem retI (X : Stand p l e R s m args below meth c T locs cells slots) (hx : p.tables.exec = Jvm.exec) {pc : Nat} {Ls : Array Slot} {z : Int32} {rest : List Value} (hret : meth.sig.returnType = some .int) (hd : decode c.code pc = .ok (.ireturn, 1)) {fs : List Frame}
    (hl : ∀ (f : JFrame) (acts : List Action), f.method = m → f.locked = none → f.entered = [] → (doReturn e (T.setTop f) acts (some (.int z))).1 = T.setFrames fs) : Steps p.tables e below (T.setTop (mkF m pc Ls (.int z :: rest))) (T.setFrames fs) := by
  have hm' : T.vm.method? m = some meth := X.method'
  have hn : narrow .int (.int z) = .int z := rfl
  show Steps p.tables e below (T.setTop { method := m, pc := pc, locals := Ls, stack := _ :: rest, locked := none }) _
  jvm_step X.here [X.here.top, hx, hd, hm', hret, hn]
  first | (intro acts; rw [hl _ acts rfl rfl rfl]) | rw [hl _ _ rfl rfl rfl]
  exact Steps.refl _
end New
end Jvm.RoadKit
namespace Jvm.Pilot.@@N@@
open Jvm Jvm.ClassFile Sem Op Lib Jvm.Free Jvm.Stand Jvm.LawKit Jvm.RoadKit Bundle Jvm.Pilot.@@N@@.Jvm.D
section Own
variable {p : Program} {l : Launch} {e : Env} {R : Room} {s : State} {m : MethodId} {args : Array Value} {below : List Frame} {meth : Method} {c : Code} {T T' : State} {locs : List Loc} {cells slots kc ks : Nat} {Q : Option Value → Heap → List Loc → Prop} {g g' : JFrame}
/-- From the frame g over T the body comes to its return, with what Q says of the value, the heap and the places written. -/
def own_Ends (p : Program) (e : Env) (below : List Frame) (s : State) (Q : Option Value → Heap → List Loc → Prop) (kc ks : Nat) (T : State) (g : JFrame) : Prop :=
  ∃ s₂ o, Steps p.tables e below (T.setTop g) s₂ ∧ s₂.status = .running ∧ Ended s₂ below o ∧ ∃ v L, o = .returned v ∧ Q v s₂.heap L ∧ FrameEnd s o s₂ L kc ks
theorem own_st (h : ∀ target, Steps p.tables e below (T'.setTop g') target → Steps p.tables e below (T.setTop g) target) (k : own_Ends p e below s Q kc ks T' g') : own_Ends p e below s Q kc ks T g := by
  obtain ⟨s₂, o, h1, r⟩ := k
  exact ⟨s₂, o, h _ h1, r⟩
theorem own_tr (h : Steps p.tables e below (T.setTop g) (T'.setTop g')) (k : own_Ends p e below s Q kc ks T' g') : own_Ends p e below s Q kc ks T g :=
  own_st (fun _ q => h.trans q) k
theorem own_retN (X : Stand p l e R s m args below meth c T locs cells slots) (hx : p.tables.exec = Jvm.exec) {pc : Nat} {Ls : Array Slot} {z w : Int32} {t : FieldType} {rest : List Value} (hret : meth.sig.returnType = some t) (ht : t = .boolean ∨ t = .byte ∨ t = .char ∨ t = .short)
    (hd : decode c.code pc = .ok (.ireturn, 1)) (hlk : meth.locks = false) (hc : cells ≤ kc) (hs : slots ≤ ks) (hw : nar t z = w) (hQ : Q (some (.int w)) T.heap locs) : own_Ends p e below s Q kc ks T (mkF m pc Ls (.int z :: rest)) := by
  obtain ⟨fs, hr, hrun, hended, hW, hsame⟩ := X.leave (v := some (.int (nar t z))) (fun h => by rw [hret] at h; cases h) hlk
  subst hw
  exact ⟨_, _, retN X hx hret ht hd hr, hrun, hended, _, _, rfl, hQ, ⟨_, rfl⟩, hW, hsame.mono hc hs⟩
theorem own_retI (X : Stand p l e R s m args below meth c T locs cells slots) (hx : p.tables.exec = Jvm.exec) {pc : Nat} {Ls : Array Slot} {z : Int32} {rest : List Value} (hret : meth.sig.returnType = some .int)
    (hd : decode c.code pc = .ok (.ireturn, 1)) (hlk : meth.locks = false) (hc : cells ≤ kc) (hs : slots ≤ ks) (hQ : Q (some (.int z)) T.heap locs) : own_Ends p e below s Q kc ks T (mkF m pc Ls (.int z :: rest)) := by
  obtain ⟨fs, hr, hrun, hended, hW, hsame⟩ := X.leave (v := some (.int z)) (fun h => by rw [hret] at h; cases h) hlk
  exact ⟨_, _, retI X hx hret hd hr, hrun, hended, _, _, rfl, hQ, ⟨_, rfl⟩, hW, hsame.mono hc hs⟩
theorem own_retA (X : Stand p l e R s m args below meth c T locs cells slots) (hx : p.tables.exec = Jvm.exec) {pc : Nat} {Ls : Array Slot} {w : Value} {t : FieldType} {rest : List Value} (hret : meth.sig.returnType = some t) (ht : t.isReference = true) (hr : w.isRef = true) (hn : narrow t w = w)
    (hd : decode c.code pc = .ok (.areturn, 1)) (hlk : meth.locks = false) (hc : cells ≤ kc) (hs : slots ≤ ks) (hQ : Q (some w) T.heap locs) : own_Ends p e below s Q kc ks T (mkF m pc Ls (w :: rest)) := by
  obtain ⟨fs, hl, hrun, hended, hW, hsame⟩ := X.leave (v := some w) (fun h => by rw [hret] at h; cases h) hlk
  exact ⟨_, _, retOut X hx hret hn (Or.inr (Or.inr (Or.inr (Or.inr ⟨rfl, ht, hr⟩)))) hd hl, hrun, hended, _, _, rfl, hQ, ⟨_, rfl⟩, hW, hsame.mono hc hs⟩
theorem own_retV (X : Stand p l e R s m args below meth c T locs cells slots) (hx : p.tables.exec = Jvm.exec) {pc : Nat} {Ls : Array Slot} (hret : meth.sig.returnType = none)
    (hd : decode c.code pc = .ok (.return_, 1)) (hlk : meth.locks = false) (hc : cells ≤ kc) (hs : slots ≤ ks) (hQ : Q none T.heap locs) : own_Ends p e below s Q kc ks T (mkF m pc Ls []) := by
  obtain ⟨fs, hr, hrun, hended, hW, hsame⟩ := X.leave (v := none) (fun _ => rfl) hlk
  exact ⟨_, _, X.returnOut hx hret hd hr, hrun, hended, _, _, rfl, hQ, ⟨_, rfl⟩, hW, hsame.mono hc hs⟩
end Own
section OwnFacts
variable {args : Array Value} {Z : State} {t t2 : Term} {x y : Addr} {C n d : String} {k : Int32}
theorem own_fldI (ev : t.eval args Z none [] Z = some (.ref x)) (h : (Cond.eq (.field t C n d) (.int k)).value args Z none Z [] = some true) : Fld Z Z.heap x C n d (.int k) := by
  obtain ⟨u, w, h1, h2, q, -⟩ := cmp_v (Or.inl h)
  cases (Term.int_eval k).symm.trans h2
  cases u <;> simp [Cond.value, h1, Term.int_eval] at h
  subst h
  exact Fld.start (by rw [← fld_at ev]; exact h1)
theorem own_fldN (ev : t.eval args Z none [] Z = some (.ref x)) (h : (Cond.eq (.field t C n d) .null).value args Z none Z [] = some true) : Fld Z Z.heap x C n d .null :=
  Fld.start (by rw [← fld_at ev]; exact null_v h)
theorem own_fldR (ev : t.eval args Z none [] Z = some (.ref x)) (ev2 : t2.eval args Z none [] Z = some (.ref y)) (h : (Cond.eq (.field t C n d) t2).value args Z none Z [] = some true) : Fld Z Z.heap x C n d (.ref y) := by
  obtain ⟨u, w, h1, h2, -, -⟩ := cmp_v (Or.inl h)
  cases ev2.symm.trans h2
  cases u <;> simp [Cond.value, h1, ev2] at h
  subst h
  exact Fld.start (by rw [← fld_at ev]; exact h1)
end OwnFacts
section OwnArr
variable {p : Program} {l : Launch} {e : Env} {R : Room} {s : State} {m : MethodId} {args : Array Value} {below : List Frame} {meth : Method} {c : Code} {T : State} {locs : List Loc} {cells slots : Nat} {Z : State} {h : Heap} {a y : Addr} {k : ClassId} {C : String} {z j : Int32} {vs : List Value}
theorem own_fill (X : Stand p l e R s m args below meth c T locs cells slots) (hx : p.tables.exec = Jvm.exec) (hZ : Z.Warmed39 s.vm) (eT : T.heap = h) (V : Arv Z h a k (.object C) z vs .null) (Ov : Ovr Z k C) (Iy : Ins Z h y C true) (i : Nat) (hj : j.toNatClampNeg = i) (hi : i < vs.length) (hjz : ¬ j < 0 ∧ j < z)
    {g : JFrame} (hg : g.method = m) {rest : List Value} (hs : g.stack = .ref y :: .int j :: .ref a :: rest) (hd : decode c.code g.pc = .ok (.aastore, 1)) :
    ∃ T' h', Stand p l e R s m args below meth c T' (locs ++ [⟨a, j.toNatClampNeg⟩]) cells slots ∧ T'.heap = h' ∧ Wr h h' a j.toNatClampNeg (.ref y) ∧ Arv Z h' a k (.object C) z (vs.set i (.ref y)) .null ∧
      ∀ target, Steps p.tables e below (T'.setTop { g with pc := g.pc + 1, stack := rest }) target → Steps p.tables e below (T.setTop g) target := by
  obtain ⟨cl, Ar, q, S, M, H, G⟩ := V
  obtain ⟨T', h', X', e', W, st⟩ := stR X hx hZ eT Ar (j := j) (inb_of S hjz) rfl (Sto.ofV Ar q Ov Iy) hg hs hd
  exact ⟨T', h', X', e', W, Arv.set Ar q S M H G rfl W i hj hi, st⟩
end OwnArr
section OwnWide
variable {p : Program} {l : Launch} {e : Env} {R : Room} {s : State} {vm : Vm} {nk : Nat} {m : MethodId} {args : Array Value} {below : List Frame} {meth : Method} {c : Code} {T T' : State} {locs : List Loc} {cells slots kc ks : Nat} {Q : Option Value → Heap → List Loc → Prop} {g g' : JFrame}
/-- own_Ends where a String constant may have been interned meanwhile. -/
def own_EndsW (p : Program) (e : Env) (below : List Frame) (s : State) (Q : Option Value → Heap → List Loc → Prop) (kc ks : Nat) (T : State) (g : JFrame) : Prop :=
  ∃ s₂ o, Steps p.tables e below (T.setTop g) s₂ ∧ s₂.status = .running ∧ Ended s₂ below o ∧ ∃ v L, o = .returned v ∧ Q v s₂.heap L ∧ ReturnedEndW s o s₂ L kc ks
theorem own_stW (h : ∀ target, Steps p.tables e below (T'.setTop g') target → Steps p.tables e below (T.setTop g) target) (k : own_EndsW p e below s Q kc ks T' g') : own_EndsW p e below s Q kc ks T g := by
  obtain ⟨s₂, o, h1, r⟩ := k
  exact ⟨s₂, o, h _ h1, r⟩
theorem own_trW (h : Steps p.tables e below (T.setTop g) (T'.setTop g')) (k : own_EndsW p e below s Q kc ks T' g') : own_EndsW p e below s Q kc ks T g :=
  own_stW (fun _ q => h.trans q) k
theorem own_retNW (X : Stand p l e R (s.setVm vm) m args below meth c T locs cells slots) (hS : s.Since vm nk) (hn : nk ≤ T.heap.size) (hx : p.tables.exec = Jvm.exec) {pc : Nat} {Ls : Array Slot} {z w : Int32} {t : FieldType} {rest : List Value} (hret : meth.sig.returnType = some t) (ht : t = .boolean ∨ t = .byte ∨ t = .char ∨ t = .short)
    (hd : decode c.code pc = .ok (.ireturn, 1)) (hlk : meth.locks = false) (hc : cells ≤ kc) (hs : slots ≤ ks) (hw : nar t z = w) (hQ : Q (some (.int w)) T.heap locs) : own_EndsW p e below s Q kc ks T (mkF m pc Ls (.int z :: rest)) := by
  obtain ⟨fs, hr, hrun, hended, hE⟩ := X.leaveW hS hn (v := some (.int (nar t z))) (fun h => by rw [hret] at h; cases h) hlk
  subst hw
  exact ⟨_, _, retN X hx hret ht hd hr, hrun, hended, _, _, rfl, hQ, hE.1, hE.2.1, hE.2.2.1, hE.2.2.2.mono hc hs⟩
theorem own_retIW (X : Stand p l e R (s.setVm vm) m args below meth c T locs cells slots) (hS : s.Since vm nk) (hn : nk ≤ T.heap.size) (hx : p.tables.exec = Jvm.exec) {pc : Nat} {Ls : Array Slot} {z : Int32} {rest : List Value} (hret : meth.sig.returnType = some .int)
    (hd : decode c.code pc = .ok (.ireturn, 1)) (hlk : meth.locks = false) (hc : cells ≤ kc) (hs : slots ≤ ks) (hQ : Q (some (.int z)) T.heap locs) : own_EndsW p e below s Q kc ks T (mkF m pc Ls (.int z :: rest)) := by
  obtain ⟨fs, hr, hrun, hended, hE⟩ := X.leaveW hS hn (v := some (.int z)) (fun h => by rw [hret] at h; cases h) hlk
  exact ⟨_, _, retI X hx hret hd hr, hrun, hended, _, _, rfl, hQ, hE.1, hE.2.1, hE.2.2.1, hE.2.2.2.mono hc hs⟩
theorem own_retAW (X : Stand p l e R (s.setVm vm) m args below meth c T locs cells slots) (hS : s.Since vm nk) (hn : nk ≤ T.heap.size) (hx : p.tables.exec = Jvm.exec) {pc : Nat} {Ls : Array Slot} {w : Value} {t : FieldType} {rest : List Value} (hret : meth.sig.returnType = some t) (ht : t.isReference = true) (hr : w.isRef = true) (hn' : narrow t w = w)
    (hd : decode c.code pc = .ok (.areturn, 1)) (hlk : meth.locks = false) (hc : cells ≤ kc) (hs : slots ≤ ks) (hQ : Q (some w) T.heap locs) : own_EndsW p e below s Q kc ks T (mkF m pc Ls (w :: rest)) := by
  obtain ⟨fs, hl, hrun, hended, hE⟩ := X.leaveW hS hn (v := some w) (fun h => by rw [hret] at h; cases h) hlk
  exact ⟨_, _, retOut X hx hret hn' (Or.inr (Or.inr (Or.inr (Or.inr ⟨rfl, ht, hr⟩)))) hd hl, hrun, hended, _, _, rfl, hQ, hE.1, hE.2.1, hE.2.2.1, hE.2.2.2.mono hc hs⟩
theorem own_retVW (X : Stand p l e R (s.setVm vm) m args below meth c T locs cells slots) (hS : s.Since vm nk) (hn : nk ≤ T.heap.size) (hx : p.tables.exec = Jvm.exec) {pc : Nat} {Ls : Array Slot} (hret : meth.sig.returnType = none)
    (hd : decode c.code pc = .ok (.return_, 1)) (hlk : meth.locks = false) (hc : cells ≤ kc) (hs : slots ≤ ks) (hQ : Q none T.heap locs) : own_EndsW p e below s Q kc ks T (mkF m pc Ls []) := by
  obtain ⟨fs, hr, hrun, hended, hE⟩ := X.leaveW hS hn (v := none) (fun _ => rfl) hlk
  exact ⟨_, _, X.returnOut hx hret hd hr, hrun, hended, _, _, rfl, hQ, hE.1, hE.2.1, hE.2.2.1, hE.2.2.2.mono hc hs⟩
end OwnWide
section OwnRef
variable {p : Program} {l : Launch} {e : Env} {R : Room} {s : State} {m : MethodId} {args : Array Value} {below : List Frame} {meth : Method} {c : Code} {T : State} {locs : List Loc} {cells slots : Nat} {Z : State} {a0 : Array Value} {h : Heap} {own R0 n d : String} {index : Nat}
/-- an entry that the start's tables have resolved is resolved where the walk stands -/
theorem own_ready (X : Stand p l e R s m args below meth c T locs cells slots) (hZ : Z.Warmed39 s.vm) (hown : s.vm.findClass own = some m.cls) (w : (Cond.fieldRef own index R0 n d).before a0 Z = true) {cf i : Nat} {k : Class} {f : Field} (hf : Z.fieldFound? R0 n d = some (cf, k, i, f)) : T.vm.fieldReady m.cls index cf f := by
  have hU : Z.Warmed39 T.vm := wtrans hZ X.warmed
  have w2 := Cond.fieldRef_warmed39 hU w
  have hcur : (Z.setVm T.vm).vm.findClass own = some m.cls := by
    show T.vm.findClass own = _
    rw [X.warmed.alike.findClass]; exact hown
  obtain ⟨c1, k1, i1, f1, h1, h2⟩ := Cond.fieldRef_spec (s := Z.setVm T.vm) hcur w2
  obtain ⟨k', h3, -⟩ := State.fieldFound?_setVm (s := Z) hU.alike hf
  cases h1.symm.trans h3
  exact h2
theorem own_getR (X : Stand p l e R s m args below meth c T locs cells slots) (hx : p.tables.exec = Jvm.exec) (hZ : Z.Warmed39 s.vm) (hown : s.vm.findClass own = some m.cls) (w : (Cond.fieldRef own index R0 n d).before a0 Z = true) (eT : T.heap = h) {a : Addr} {v : Value} (F : Fld Z h a R0 n d v)
    {g : JFrame} (hg : g.method = m) {rest : List Value} (hs : g.stack = .ref a :: rest) (hd : decode c.code g.pc = .ok (.getfield index, 3)) :
    ∀ target, Steps p.tables e below (T.setTop { g with pc := g.pc + 3, stack := v :: rest }) target → Steps p.tables e below (T.setTop g) target := by
  obtain ⟨cell, cf, k, i, f, h1, h2, h3, h4, -, -, h7⟩ := F
  have hr := own_ready X hZ hown w h2
  have hc : T.heap[a]? = some cell := by rw [eT]; exact h1
  intro target hrest
  subst hg
  jvm_step X.here [hx, hd, getfield.wp_ready (e := e) (s := T) (f := g) X.here.top hr h3 hs hc h4 h7]
  exact hrest
theorem own_putR (X : Stand p l e R s m args below meth c T locs cells slots) (hx : p.tables.exec = Jvm.exec) (hZ : Z.Warmed39 s.vm) {C : String} {kk : Nat} {ty : FieldType} (hown : s.vm.findClass own = some m.cls) (w : (Cond.fieldRef own index R0 n d).before a0 Z = true)
    (eT : T.heap = h) {a : Addr} {v old : Value} (F : Fld Z h a R0 n d old) (E : Exa Z h a C) (L : (Cond.lays C R0 n d).before a0 Z = true) (wi : (Cond.instantiable C kk).before a0 Z = true)
    (hty : parseFieldDescriptor d = some ty) (hn : narrow ty v = v) (hf : fits ty v = true) {g : JFrame} (hg : g.method = m) {rest : List Value} (hs : g.stack = v :: .ref a :: rest) (hd : decode c.code g.pc = .ok (.putfield index, 3)) :
    ∃ T' h', Stand p l e R s m args below meth c T' (locs ++ [⟨a, Jvm.RoadKit.slotOf Z R0 n d⟩]) cells slots ∧ T'.heap = h' ∧ Wr h h' a (Jvm.RoadKit.slotOf Z R0 n d) v ∧ ∀ target, Steps p.tables e below (T'.setTop { g with pc := g.pc + 3, stack := rest }) target → Steps p.tables e below (T.setTop g) target := by
  obtain ⟨cell, cf, k, i, f, f1, f2, f3, f4, f5, -, f7⟩ := F
  obtain ⟨cell', kc, x1, x2, x3, -⟩ := E
  cases f1.symm.trans x1
  obtain ⟨cA, kA, cB, kB, iB, fB, b1, b2, b3, b4, b5, -, b7, -⟩ := Cond.lays_spec L
  cases f2.symm.trans b3
  cases x2.symm.trans b1
  obtain ⟨cC, kC, d1, d2, d3, -⟩ := Cond.instantiable_spec wi
  cases x2.symm.trans d1
  cases b2.symm.trans d2
  have ht : f.type = ty := (State.fieldFound?_type f2 hty).2
  have hU : Z.Warmed39 T.vm := wtrans hZ X.warmed
  have q : Z.slotType? cell.cls cell.vm f.slot = some ty := by
    simp only [State.slotType?, b2, Option.bind_eq_bind, Option.bind_some, d3]
    cases hq : cell.vm <;> first | (rw [hq] at f5; exact Bool.noConfusion f5) | (rw [b7, ht])
  have hfZ : Z.fitsSlot cell.cls cell.vm f.slot v = true := by simp [State.fitsSlot, q, hf]
  have hfT : T.fitsSlot cell.cls cell.vm f.slot v = true := by
    have z := hfZ
    rw [← State.fitsSlot_setVm hU.alike] at z
    exact z
  have hc : T.heap[a]? = some cell := by rw [eT]; exact f1
  have hlt := (Array.getElem?_eq_some_iff.mp f7).1
  have es : Jvm.RoadKit.slotOf Z R0 n d = f.slot := by simp [Jvm.RoadKit.slotOf, f2]
  rw [es]
  obtain ⟨X', st⟩ := X.putfieldReady hx (own_ready X hZ hown w f2) f3 (Or.inl b5) hc f4 hlt (by rw [ht]; exact hn) hfT hg hs hd
  exact ⟨_, _, X', rfl, ⟨cell, f1, f5, hlt, by rw [← eT]; rfl⟩, st⟩
/-- a constructor through an entry that the start's tables have resolved -/
theorem own_specialR (X : Stand p l e R s m args below meth c T locs cells slots) (hx : p.tables.exec = Jvm.exec) (hZ : Z.Warmed39 s.vm) {y : MethodName} (hy1 : y.name = "<init>") (hown : s.vm.findClass own = some m.cls) (w : (Cond.methodRef own index y).before a0 Z = true)
    (w2 : (Cond.instanceMethod y).before a0 Z = true) {bytes : ByteArray} {maxL : Nat} (w3 : (Cond.code y bytes maxL none).before a0 Z = true) (hy : y.cls ≠ "java/lang/invoke/MethodHandle" ∧ y.cls ≠ "java/lang/invoke/VarHandle")
    {W : Nat} {Pre : Pt → Array Value → Prop} {Post : Pt → Array Value → Option Value → Pt → Prop} (hK : Back l R p e below s args y 3 W Pre Post)
    {g : JFrame} (hg : g.method = m) (hsize : g.locals.size = c.maxLocals) {a : Addr} {argsL rest : List Value} (hlen : ∀ sig, parseMethodDescriptor y.desc = some sig → argsL.length = sig.parameters.length) (hstack : g.stack = argsL.reverse ++ .ref a :: rest) (hW : 2 * g.monitorRoom + (rest.map fun v => v.category).sum ≤ W)
    (hdg : decode c.code g.pc = .ok (.invokespecial index, 3)) (hpre : Pre ⟨T, locs, cells, slots⟩ (.ref a :: argsL).toArray) :
    ∃ (v : Option Value) (B : Pt), Stand p l e R s m args below meth c B.U B.locs B.cells B.slots ∧ Post ⟨T, locs, cells, slots⟩ (.ref a :: argsL).toArray v B ∧ Steps p.tables e below (T.setTop g) (B.U.setTop { g with pc := g.pc + 3, stack := v.toList ++ rest }) := by
  have i2 : (Cond.instanceMethod y).before args s = true := mv hZ w2
  have i3 : (Cond.code y bytes maxL none).before args s = true := mv hZ w3
  obtain ⟨ob, mo, hn, hm, hst, hab⟩ := Cond.instanceMethod_spec i2
  obtain ⟨mo', co, hm', -, -, -, -, -, -, hsig⟩ := Cond.code_spec hn i3
  cases hm.symm.trans hm'
  obtain ⟨ko, hko, -⟩ := className_of_methodNamed hn
  obtain ⟨hnm, hds⟩ := name_of_methodNamed hn hm
  have hU : Z.Warmed39 T.vm := wtrans hZ X.warmed
  have hnT : (Z.setVm T.vm).methodNamed? y = some ob := X.named hn
  have hnZ : Z.methodNamed? y = some ob := by rw [← State.methodNamed?_setVm hU.alike]; exact hnT
  have r2 := Cond.methodRef_warmed39 hU hnZ hy w
  have hcur : (Z.setVm T.vm).vm.findClass own = some m.cls := by
    show T.vm.findClass own = _
    rw [X.warmed.alike.findClass]; exact hown
  obtain ⟨m1, c1, j1, j2, j3, j4⟩ := Cond.methodRef_named (s := Z.setVm T.vm) e hcur r2
  cases j1.symm.trans (State.methodFound?_of_named hnT hy)
  cases j3.symm.trans (findClass_of_methodNamed hnT)
  have k2 : T.vm.methodReady m.cls index ob := j2
  have k4 : namesResolved T.vm m.cls index ob.cls := j4
  obtain ⟨kT, hkT, -⟩ := X.warmed.alike.2.2 _ _ hko
  have hmT : T.vm.method? ob = some mo := by rw [X.warmed.alike.method?]; exact hm
  have hfT : lookupSpecial T.vm ob.cls "<init>" mo.desc = .method ob := by
    rw [X.warmed.alike.lookupSpecial, hds, ← hy1]; exact lookupSpecial_of_named hn hm hst
  have hstep : ∀ target, (∀ acts, Steps p.tables e below (doInvoke e (T.setTop { g with stack := rest }) acts ob (.ref a :: argsL).toArray).1 target) → Steps p.tables e below (T.setTop g) target := by
    intro target hrest
    subst hg
    jvm_step X.here [hx, hdg, invokespecial.wp_init (e := e) (s := T) (k := kT) (meth := mo) (m := ob) (a := a) (args := argsL) (rest := rest) (f := g) X.here.top k4 k2 hkT hmT (by rw [hnm]; exact hy1) hst hab hfT (hlen _ hsig) hstack]
    exact hrest
  obtain ⟨v, B, X', hpost, hsteps⟩ := hK m meth c ⟨T, locs, cells, slots⟩ { g with stack := rest } (.invokespecial index) ob (.ref a :: argsL).toArray X hg hsize hdg hW (X.named hn) hpre
  exact ⟨v, B, X', hpost, (hstep _ fun acts => by rw [doInvoke_state]; exact Steps.refl _).trans hsteps⟩
end OwnRef
def own_W (Z : State) (r0 rD r3 r5 r6 r4 r2 r1 rL : Addr) : Prop := Sta Z Z.heap "com/example/clear_tx/cleartx/Propagation" "REQUIRED" "Lcom/example/clear_tx/cleartx/Propagation;" (.ref r0) ∧ Exa Z Z.heap r0 "com/example/clear_tx/cleartx/Propagation" ∧ Sta Z Z.heap "com/example/clear_tx/cleartx/Isolation" "DEFAULT" "Lcom/example/clear_tx/cleartx/Isolation;" (.ref rD) ∧ Exa Z Z.heap rD "com/example/clear_tx/cleartx/Isolation" ∧ Sta Z Z.heap "com/example/clear_tx/cleartx/Propagation" "REQUIRES_NEW" "Lcom/example/clear_tx/cleartx/Propagation;" (.ref r3) ∧ Exa Z Z.heap r3 "com/example/clear_tx/cleartx/Propagation" ∧ Sta Z Z.heap "com/example/clear_tx/cleartx/Propagation" "NEVER" "Lcom/example/clear_tx/cleartx/Propagation;" (.ref r5) ∧ Exa Z Z.heap r5 "com/example/clear_tx/cleartx/Propagation" ∧ Sta Z Z.heap "com/example/clear_tx/cleartx/Propagation" "NESTED" "Lcom/example/clear_tx/cleartx/Propagation;" (.ref r6) ∧ Exa Z Z.heap r6 "com/example/clear_tx/cleartx/Propagation" ∧ Sta Z Z.heap "com/example/clear_tx/cleartx/Propagation" "NOT_SUPPORTED" "Lcom/example/clear_tx/cleartx/Propagation;" (.ref r4) ∧ Exa Z Z.heap r4 "com/example/clear_tx/cleartx/Propagation" ∧ Sta Z Z.heap "com/example/clear_tx/cleartx/Propagation" "MANDATORY" "Lcom/example/clear_tx/cleartx/Propagation;" (.ref r2) ∧ Exa Z Z.heap r2 "com/example/clear_tx/cleartx/Propagation" ∧ Sta Z Z.heap "com/example/clear_tx/cleartx/Propagation" "SUPPORTS" "Lcom/example/clear_tx/cleartx/Propagation;" (.ref r1) ∧ Exa Z Z.heap r1 "com/example/clear_tx/cleartx/Propagation" ∧ Sta Z Z.heap "java/util/ImmutableCollections" "EMPTY_LIST" "Ljava/util/ImmutableCollections$ListN;" (.ref rL)
theorem own_wS {Z : State} {a0 : Array Value} (hw : ∀ d ∈ tables_1, d.before a0 Z = true) : ∀ a ∈ Bundle.stringAtoms, a.before a0 Z = true := by
  intro d hd
  have hd' : d ∈ [(Jvm.Cond.initialized "java/lang/String"), (Jvm.Cond.instantiable "java/lang/String" (4 : Nat)), (Jvm.Cond.arrayClass Jvm.ClassFile.FieldType.byte), (Jvm.Cond.laysFinal "java/lang/String" "java/lang/String" "value" "[B"), (Jvm.Cond.laysFinal "java/lang/String" "java/lang/String" "coder" "B"), (Jvm.Cond.soleField "java/lang/String" "value"), (Jvm.Cond.soleField "java/lang/String" "coder")] := hd
  simp only [List.mem_cons, List.not_mem_nil, or_false] at hd'
  rcases hd' with rfl | rfl | rfl | rfl | rfl | rfl | rfl
  · exact (hw _ (List.mem_of_getElem? (i := 13) rfl))
  · exact (hw _ (List.mem_of_getElem? (i := 14) rfl))
  · exact (hw _ (List.mem_of_getElem? (i := 15) rfl))
  · exact (hw _ (List.mem_of_getElem? (i := 16) rfl))
  · exact (hw _ (List.mem_of_getElem? (i := 17) rfl))
  · exact (hw _ (List.mem_of_getElem? (i := 18) rfl))
  · exact (hw _ (List.mem_of_getElem? (i := 19) rfl))
theorem pd_0 : parseMethodDescriptor "(I)Lcom/example/clear_tx/cleartx/Propagation;" = some ⟨[.int], some (.object "com/example/clear_tx/cleartx/Propagation")⟩ := by decide +kernel
theorem pd_1 : parseMethodDescriptor "(Lcom/example/clear_tx/cleartx/Propagation;)Lcom/example/clear_tx/cleartx/TransactionDefinition;" = some ⟨[(.object "com/example/clear_tx/cleartx/Propagation")], some (.object "com/example/clear_tx/cleartx/TransactionDefinition")⟩ := by decide +kernel
theorem pd_2 : parseMethodDescriptor "(Ljava/lang/Object;Ljava/lang/String;)Ljava/lang/Object;" = some ⟨[(.object "java/lang/Object"), (.object "java/lang/String")], some (.object "java/lang/Object")⟩ := by decide +kernel
theorem pd_3 : parseMethodDescriptor "()V" = some ⟨[], none⟩ := by decide +kernel
theorem pd_4 : parseMethodDescriptor "()Ljava/util/List;" = some ⟨[], some (.object "java/util/List")⟩ := by decide +kernel
theorem pd_5 : parseMethodDescriptor "(Lcom/example/clear_tx/cleartx/TransactionDefinition$Settings;)V" = some ⟨[(.object "com/example/clear_tx/cleartx/TransactionDefinition$Settings")], none⟩ := by decide +kernel
theorem pd_6 : parseMethodDescriptor "()Lcom/example/clear_tx/cleartx/Propagation;" = some ⟨[], some (.object "com/example/clear_tx/cleartx/Propagation")⟩ := by decide +kernel
theorem pd_7 : parseMethodDescriptor "()Lcom/example/clear_tx/cleartx/Isolation;" = some ⟨[], some (.object "com/example/clear_tx/cleartx/Isolation")⟩ := by decide +kernel
theorem pd_8 : parseMethodDescriptor "()Z" = some ⟨[], some .boolean⟩ := by decide +kernel
theorem pd_9 : parseMethodDescriptor "()I" = some ⟨[], some .int⟩ := by decide +kernel
theorem pd_10 : parseMethodDescriptor "()Ljava/lang/String;" = some ⟨[], some (.object "java/lang/String")⟩ := by decide +kernel
theorem own_idx (p : Int32) : (p &&& (2147483647 : Int32)) % (7 : Int32) = (0 : Int32) ∨ (p &&& (2147483647 : Int32)) % (7 : Int32) = (1 : Int32) ∨ (p &&& (2147483647 : Int32)) % (7 : Int32) = (2 : Int32) ∨ (p &&& (2147483647 : Int32)) % (7 : Int32) = (3 : Int32) ∨ (p &&& (2147483647 : Int32)) % (7 : Int32) = (4 : Int32) ∨ (p &&& (2147483647 : Int32)) % (7 : Int32) = (5 : Int32) ∨ (p &&& (2147483647 : Int32)) % (7 : Int32) = (6 : Int32) := by
  have e1 : (p &&& (2147483647 : Int32)).toInt = p.toInt % 2 ^ 31 := Jvm.Kit.i32_mask p 2147483647 (k := 31) (by decide) (by decide)
  have e2 : ((p &&& (2147483647 : Int32)) % (7 : Int32)).toInt = (p &&& (2147483647 : Int32)).toInt.tmod 7 := Int32.toInt_mod _ _
  rw [e1, Int.tmod_eq_emod_of_nonneg (by omega)] at e2
  generalize (p &&& (2147483647 : Int32)) % (7 : Int32) = x at *
  have h : x.toInt = 0 ∨ x.toInt = 1 ∨ x.toInt = 2 ∨ x.toInt = 3 ∨ x.toInt = 4 ∨ x.toInt = 5 ∨ x.toInt = 6 := by omega
  rcases h with h | h | h | h | h | h | h
  · exact Or.inl (Int32.toInt_inj.mp (h.trans (by decide)))
  · exact Or.inr (Or.inl (Int32.toInt_inj.mp (h.trans (by decide))))
  · exact Or.inr (Or.inr (Or.inl (Int32.toInt_inj.mp (h.trans (by decide)))))
  · exact Or.inr (Or.inr (Or.inr (Or.inl (Int32.toInt_inj.mp (h.trans (by decide))))))
  · exact Or.inr (Or.inr (Or.inr (Or.inr (Or.inl (Int32.toInt_inj.mp (h.trans (by decide)))))))
  · exact Or.inr (Or.inr (Or.inr (Or.inr (Or.inr (Or.inl (Int32.toInt_inj.mp (h.trans (by decide))))))))
  · exact Or.inr (Or.inr (Or.inr (Or.inr (Or.inr (Or.inr ((Int32.toInt_inj.mp (h.trans (by decide)))))))))
theorem d1_0 : decode method_3_code 0 = .ok (.iload_n 0, 1) := by decide +kernel
theorem d1_1 : decode method_3_code 1 = .ok (.ifCond .ne 7, 3) := by decide +kernel
theorem d1_4 : decode method_3_code 4 = .ok (.getstatic 49, 3) := by decide +kernel
theorem d1_7 : decode method_3_code 7 = .ok (.areturn, 1) := by decide +kernel
theorem d1_8 : decode method_3_code 8 = .ok (.iload_n 0, 1) := by decide +kernel
theorem d1_9 : decode method_3_code 9 = .ok (.iconst 1, 1) := by decide +kernel
theorem d1_10 : decode method_3_code 10 = .ok (.if_icmp .ne 7, 3) := by decide +kernel
theorem d1_13 : decode method_3_code 13 = .ok (.getstatic 55, 3) := by decide +kernel
theorem d1_16 : decode method_3_code 16 = .ok (.areturn, 1) := by decide +kernel
theorem d1_17 : decode method_3_code 17 = .ok (.iload_n 0, 1) := by decide +kernel
theorem d1_18 : decode method_3_code 18 = .ok (.iconst 2, 1) := by decide +kernel
theorem d1_19 : decode method_3_code 19 = .ok (.if_icmp .ne 7, 3) := by decide +kernel
theorem d1_22 : decode method_3_code 22 = .ok (.getstatic 58, 3) := by decide +kernel
theorem d1_25 : decode method_3_code 25 = .ok (.areturn, 1) := by decide +kernel
theorem d1_26 : decode method_3_code 26 = .ok (.iload_n 0, 1) := by decide +kernel
theorem d1_27 : decode method_3_code 27 = .ok (.iconst 3, 1) := by decide +kernel
theorem d1_28 : decode method_3_code 28 = .ok (.if_icmp .ne 7, 3) := by decide +kernel
theorem d1_31 : decode method_3_code 31 = .ok (.getstatic 61, 3) := by decide +kernel
theorem d1_34 : decode method_3_code 34 = .ok (.areturn, 1) := by decide +kernel
theorem d1_35 : decode method_3_code 35 = .ok (.iload_n 0, 1) := by decide +kernel
theorem d1_36 : decode method_3_code 36 = .ok (.iconst 4, 1) := by decide +kernel
theorem d1_37 : decode method_3_code 37 = .ok (.if_icmp .ne 7, 3) := by decide +kernel
theorem d1_40 : decode method_3_code 40 = .ok (.getstatic 64, 3) := by decide +kernel
theorem d1_43 : decode method_3_code 43 = .ok (.areturn, 1) := by decide +kernel
theorem d1_44 : decode method_3_code 44 = .ok (.iload_n 0, 1) := by decide +kernel
theorem d1_45 : decode method_3_code 45 = .ok (.iconst 5, 1) := by decide +kernel
theorem d1_46 : decode method_3_code 46 = .ok (.if_icmp .ne 7, 3) := by decide +kernel
theorem d1_49 : decode method_3_code 49 = .ok (.getstatic 67, 3) := by decide +kernel
theorem d1_52 : decode method_3_code 52 = .ok (.areturn, 1) := by decide +kernel
theorem d1_53 : decode method_3_code 53 = .ok (.getstatic 70, 3) := by decide +kernel
theorem d1_56 : decode method_3_code 56 = .ok (.areturn, 1) := by decide +kernel
theorem pn_0 : plainName "com/example/clear_tx/cleartx/TransactionDefinitionOfPinLaw" = true := by first | (simp [plainName, overriddenIn]; done) | decide +kernel
theorem ef_rm_pick0 (m : MethodId) (x0 : Int32) : entryFrame m #[(.int x0)] 1 = mkF m 0 #[.val (.int x0)] [] := by first | (simp [entryFrame, mkF, argsToLocals, Value.category]; done) | rfl
def Q_rm_pick0 (Z : State) (r0 : Addr) (rD : Addr) (r3 : Addr) (r5 : Addr) (r6 : Addr) (r4 : Addr) (r2 : Addr) (r1 : Addr) (rL : Addr) (h0 : Heap) (n0 : Nat) (v : Option Value) (h : Heap) (L : List Loc) : Prop := v = some (.ref r0) ∧ Fr n0 L ∧ h = h0
set_option maxRecDepth 65536 in
set_option maxHeartbeats 40000000 in
theorem rm_pick0 (l : Launch) (Z : State) (a0 : Array Value) (hw : ∀ d ∈ tables_1, d.before a0 Z = true) (ws : List Jvm.Cond) (r0 : Addr) (rD : Addr) (r3 : Addr) (r5 : Addr) (r6 : Addr) (r4 : Addr) (r2 : Addr) (r1 : Addr) (rL : Addr) (h0 : Heap) (n0 : Nat) (O0 : Old Z n0 h0) (G : own_W Z r0 rD r3 r5 r6 r4 r2 r1 rL) :
    MetFree l (⟨"com/example/clear_tx/cleartx/TransactionDefinitionOfPinLaw", "pick", "(I)Lcom/example/clear_tx/cleartx/Propagation;"⟩ : MethodName) (head1 (Jvm.Cond.code (⟨"com/example/clear_tx/cleartx/TransactionDefinitionOfPinLaw", "pick", "(I)Lcom/example/clear_tx/cleartx/Propagation;"⟩ : MethodName) method_3_code 1 (some (.object "com/example/clear_tx/cleartx/Propagation")) :: ws) ({ frames := 0, cells := 0, slots := 0, locals := 0 } : Room)) (fun a U => a = #[(.int (0 : Int32))] ∧ Z.Warmed39 U.vm ∧ U.heap = h0) (fun _ _ _ _ _ => True) (fun _ U o U' => ∃ v L, o = .returned v ∧ Q_rm_pick0 Z r0 rD r3 r5 r6 r4 r2 r1 rL h0 n0 v U'.heap L ∧ FrameEnd U o U' L ({ frames := 0, cells := 0, slots := 0, locals := 0 } : Room).cells ({ frames := 0, cells := 0, slots := 0, locals := 0 } : Room).slots) := by
  refine MetFree.of_bodySF (plainFor_of_name pn_0) hisR ?_
  intro p e s m args below meth c s₁ Bd hml0 hP hK
  obtain ⟨rfl, hZ, hh⟩ := hP
  have hx := Bd.exec
  have hby := Bd.bytes
  have hml : c.maxLocals = 1 := hml0
  have hown : s.vm.findClass "com/example/clear_tx/cleartx/TransactionDefinitionOfPinLaw" = some m.cls := findClass_of_methodNamed Bd.named
  have hnm := (name_of_methodNamed Bd.named Bd.method).1
  have hlk := BodyLoose.notSynchronized Bd
  have X0 : Stand p l e ({ frames := 0, cells := 0, slots := 0, locals := 0 } : Room) s m #[(.int (0 : Int32))] below meth c s₁ [] 0 0 := Stand.of_body Bd
  have e0 : s₁.heap = h0 := by rw [← hh, Bd.state]; rfl
  have N0 := Fr.nil n0
  show own_Ends p e below s (Q_rm_pick0 Z r0 rD r3 r5 r6 r4 r2 r1 rL h0 n0) ({ frames := 0, cells := 0, slots := 0, locals := 0 } : Room).cells ({ frames := 0, cells := 0, slots := 0, locals := 0 } : Room).slots s₁ (entryFrame m #[(.int (0 : Int32))] 1)
  rw [ef_rm_pick0 m (0 : Int32)]
  have G' := G
  obtain ⟨S_0, E_0, S_D, E_D, S_3, E_3, S_5, E_5, S_6, E_6, S_4, E_4, S_2, E_2, S_1, E_1, S_L⟩ := G'
  show own_Ends _ _ _ _ _ _ _ s₁ (mkF m 0 #[.val (.int (0 : Int32))] [])
  refine own_st (fun _ kq => XS.iloadN X0.here hx rfl (hb hby d1_0) rfl kq) ?_
  show own_Ends _ _ _ _ _ _ _ s₁ (mkF m 1 #[.val (.int (0 : Int32))] [(.int (0 : Int32))])
  refine own_st (fun _ kq => XS.ifNo X0.here hx rfl (hb hby d1_1) rfl ((if0 _ _).trans (teq (by decide : (0 : Int32) = (0 : Int32))).2) kq) ?_
  show own_Ends _ _ _ _ _ _ _ s₁ (mkF m 4 #[.val (.int (0 : Int32))] [])
  obtain ⟨T1, X1, e1, st1⟩ := getS2 X0 hx hZ hown (host := "") (Or.inl (hw _ (List.mem_of_getElem? (i := 5) rfl))) Via.refl e0 (S_0.ext O0.2) (g := (mkF m 4 #[.val (.int (0 : Int32))] [])) rfl (hb hby d1_4)
  refine own_st st1 ?_
  show own_Ends _ _ _ _ _ _ _ T1 (mkF m 7 #[.val (.int (0 : Int32))] [(.ref r0)])
  refine own_retA X1 hx Bd.returns rfl rfl rfl (hb hby d1_7) hlk (by decide) (by decide) ?_
  show Q_rm_pick0 Z r0 rD r3 r5 r6 r4 r2 r1 rL h0 n0 _ T1.heap _
  rw [e1]
  exact ⟨rfl, N0, rfl⟩
theorem ef_rm_pick1 (m : MethodId) (x0 : Int32) : entryFrame m #[(.int x0)] 1 = mkF m 0 #[.val (.int x0)] [] := by first | (simp [entryFrame, mkF, argsToLocals, Value.category]; done) | rfl
def Q_rm_pick1 (Z : State) (r0 : Addr) (rD : Addr) (r3 : Addr) (r5 : Addr) (r6 : Addr) (r4 : Addr) (r2 : Addr) (r1 : Addr) (rL : Addr) (h0 : Heap) (n0 : Nat) (v : Option Value) (h : Heap) (L : List Loc) : Prop := v = some (.ref r1) ∧ Fr n0 L ∧ h = h0
set_option maxRecDepth 65536 in
set_option maxHeartbeats 40000000 in
theorem rm_pick1 (l : Launch) (Z : State) (a0 : Array Value) (hw : ∀ d ∈ tables_1, d.before a0 Z = true) (ws : List Jvm.Cond) (r0 : Addr) (rD : Addr) (r3 : Addr) (r5 : Addr) (r6 : Addr) (r4 : Addr) (r2 : Addr) (r1 : Addr) (rL : Addr) (h0 : Heap) (n0 : Nat) (O0 : Old Z n0 h0) (G : own_W Z r0 rD r3 r5 r6 r4 r2 r1 rL) :
    MetFree l (⟨"com/example/clear_tx/cleartx/TransactionDefinitionOfPinLaw", "pick", "(I)Lcom/example/clear_tx/cleartx/Propagation;"⟩ : MethodName) (head1 (Jvm.Cond.code (⟨"com/example/clear_tx/cleartx/TransactionDefinitionOfPinLaw", "pick", "(I)Lcom/example/clear_tx/cleartx/Propagation;"⟩ : MethodName) method_3_code 1 (some (.object "com/example/clear_tx/cleartx/Propagation")) :: ws) ({ frames := 0, cells := 0, slots := 0, locals := 0 } : Room)) (fun a U => a = #[(.int (1 : Int32))] ∧ Z.Warmed39 U.vm ∧ U.heap = h0) (fun _ _ _ _ _ => True) (fun _ U o U' => ∃ v L, o = .returned v ∧ Q_rm_pick1 Z r0 rD r3 r5 r6 r4 r2 r1 rL h0 n0 v U'.heap L ∧ FrameEnd U o U' L ({ frames := 0, cells := 0, slots := 0, locals := 0 } : Room).cells ({ frames := 0, cells := 0, slots := 0, locals := 0 } : Room).slots) := by
  refine MetFree.of_bodySF (plainFor_of_name pn_0) hisR ?_
  intro p e s m args below meth c s₁ Bd hml0 hP hK
  obtain ⟨rfl, hZ, hh⟩ := hP
  have hx := Bd.exec
  have hby := Bd.bytes
  have hml : c.maxLocals = 1 := hml0
  have hown : s.vm.findClass "com/example/clear_tx/cleartx/TransactionDefinitionOfPinLaw" = some m.cls := findClass_of_methodNamed Bd.named
  have hnm := (name_of_methodNamed Bd.named Bd.method).1
  have hlk := BodyLoose.notSynchronized Bd
  have X0 : Stand p l e ({ frames := 0, cells := 0, slots := 0, locals := 0 } : Room) s m #[(.int (1 : Int32))] below meth c s₁ [] 0 0 := Stand.of_body Bd
  have e0 : s₁.heap = h0 := by rw [← hh, Bd.state]; rfl
  have N0 := Fr.nil n0
  show own_Ends p e below s (Q_rm_pick1 Z r0 rD r3 r5 r6 r4 r2 r1 rL h0 n0) ({ frames := 0, cells := 0, slots := 0, locals := 0 } : Room).cells ({ frames := 0, cells := 0, slots := 0, locals := 0 } : Room).slots s₁ (entryFrame m #[(.int (1 : Int32))] 1)
  rw [ef_rm_pick1 m (1 : Int32)]
  have G' := G
  obtain ⟨S_0, E_0, S_D, E_D, S_3, E_3, S_5, E_5, S_6, E_6, S_4, E_4, S_2, E_2, S_1, E_1, S_L⟩ := G'
  show own_Ends _ _ _ _ _ _ _ s₁ (mkF m 0 #[.val (.int (1 : Int32))] [])
  refine own_st (fun _ kq => XS.iloadN X0.here hx rfl (hb hby d1_0) rfl kq) ?_
  show own_Ends _ _ _ _ _ _ _ s₁ (mkF m 1 #[.val (.int (1 : Int32))] [(.int (1 : Int32))])
  refine own_st (fun _ kq => XS.ifYes X0.here hx rfl (pc0 := 1) (pc' := 8) rfl (hb hby d1_1) rfl ((if0 _ _).trans (feq (by decide : ¬ ((1 : Int32) = (0 : Int32)))).2) (by decide) (by decide) kq) ?_
  show own_Ends _ _ _ _ _ _ _ s₁ (mkF m 8 #[.val (.int (1 : Int32))] [])
  refine own_st (fun _ kq => XS.iloadN X0.here hx rfl (hb hby d1_8) rfl kq) ?_
  show own_Ends _ _ _ _ _ _ _ s₁ (mkF m 9 #[.val (.int (1 : Int32))] [(.int (1 : Int32))])
  refine own_st (fun _ kq => XS.iconst X0.here hx rfl (hb hby d1_9) kq) ?_
  show own_Ends _ _ _ _ _ _ _ s₁ (mkF m 10 #[.val (.int (1 : Int32))] [(.int (1 : Int32)), (.int (1 : Int32))])
  refine own_st (fun _ kq => XS.icmpNo X0.here hx rfl (hb hby d1_10) rfl (teq (by decide : (1 : Int32) = (1 : Int32))).2 kq) ?_
  show own_Ends _ _ _ _ _ _ _ s₁ (mkF m 13 #[.val (.int (1 : Int32))] [])
  obtain ⟨T1, X1, e1, st1⟩ := getS2 X0 hx hZ hown (host := "") (Or.inl (hw _ (List.mem_of_getElem? (i := 107) rfl))) Via.refl e0 (S_1.ext O0.2) (g := (mkF m 13 #[.val (.int (1 : Int32))] [])) rfl (hb hby d1_13)
  refine own_st st1 ?_
  show own_Ends _ _ _ _ _ _ _ T1 (mkF m 16 #[.val (.int (1 : Int32))] [(.ref r1)])
  refine own_retA X1 hx Bd.returns rfl rfl rfl (hb hby d1_16) hlk (by decide) (by decide) ?_
  show Q_rm_pick1 Z r0 rD r3 r5 r6 r4 r2 r1 rL h0 n0 _ T1.heap _
  rw [e1]
  exact ⟨rfl, N0, rfl⟩
theorem ef_rm_pick2 (m : MethodId) (x0 : Int32) : entryFrame m #[(.int x0)] 1 = mkF m 0 #[.val (.int x0)] [] := by first | (simp [entryFrame, mkF, argsToLocals, Value.category]; done) | rfl
def Q_rm_pick2 (Z : State) (r0 : Addr) (rD : Addr) (r3 : Addr) (r5 : Addr) (r6 : Addr) (r4 : Addr) (r2 : Addr) (r1 : Addr) (rL : Addr) (h0 : Heap) (n0 : Nat) (v : Option Value) (h : Heap) (L : List Loc) : Prop := v = some (.ref r2) ∧ Fr n0 L ∧ h = h0
set_option maxRecDepth 65536 in
set_option maxHeartbeats 40000000 in
theorem rm_pick2 (l : Launch) (Z : State) (a0 : Array Value) (hw : ∀ d ∈ tables_1, d.before a0 Z = true) (ws : List Jvm.Cond) (r0 : Addr) (rD : Addr) (r3 : Addr) (r5 : Addr) (r6 : Addr) (r4 : Addr) (r2 : Addr) (r1 : Addr) (rL : Addr) (h0 : Heap) (n0 : Nat) (O0 : Old Z n0 h0) (G : own_W Z r0 rD r3 r5 r6 r4 r2 r1 rL) :
    MetFree l (⟨"com/example/clear_tx/cleartx/TransactionDefinitionOfPinLaw", "pick", "(I)Lcom/example/clear_tx/cleartx/Propagation;"⟩ : MethodName) (head1 (Jvm.Cond.code (⟨"com/example/clear_tx/cleartx/TransactionDefinitionOfPinLaw", "pick", "(I)Lcom/example/clear_tx/cleartx/Propagation;"⟩ : MethodName) method_3_code 1 (some (.object "com/example/clear_tx/cleartx/Propagation")) :: ws) ({ frames := 0, cells := 0, slots := 0, locals := 0 } : Room)) (fun a U => a = #[(.int (2 : Int32))] ∧ Z.Warmed39 U.vm ∧ U.heap = h0) (fun _ _ _ _ _ => True) (fun _ U o U' => ∃ v L, o = .returned v ∧ Q_rm_pick2 Z r0 rD r3 r5 r6 r4 r2 r1 rL h0 n0 v U'.heap L ∧ FrameEnd U o U' L ({ frames := 0, cells := 0, slots := 0, locals := 0 } : Room).cells ({ frames := 0, cells := 0, slots := 0, locals := 0 } : Room).slots) := by
  refine MetFree.of_bodySF (plainFor_of_name pn_0) hisR ?_
  intro p e s m args below meth c s₁ Bd hml0 hP hK
  obtain ⟨rfl, hZ, hh⟩ := hP
  have hx := Bd.exec
  have hby := Bd.bytes
  have hml : c.maxLocals = 1 := hml0
  have hown : s.vm.findClass "com/example/clear_tx/cleartx/TransactionDefinitionOfPinLaw" = some m.cls := findClass_of_methodNamed Bd.named
  have hnm := (name_of_methodNamed Bd.named Bd.method).1
  have hlk := BodyLoose.notSynchronized Bd
  have X0 : Stand p l e ({ frames := 0, cells := 0, slots := 0, locals := 0 } : Room) s m #[(.int (2 : Int32))] below meth c s₁ [] 0 0 := Stand.of_body Bd
  have e0 : s₁.heap = h0 := by rw [← hh, Bd.state]; rfl
  have N0 := Fr.nil n0
  show own_Ends p e below s (Q_rm_pick2 Z r0 rD r3 r5 r6 r4 r2 r1 rL h0 n0) ({ frames := 0, cells := 0, slots := 0, locals := 0 } : Room).cells ({ frames := 0, cells := 0, slots := 0, locals := 0 } : Room).slots s₁ (entryFrame m #[(.int (2 : Int32))] 1)
  rw [ef_rm_pick2 m (2 : Int32)]
  have G' := G
  obtain ⟨S_0, E_0, S_D, E_D, S_3, E_3, S_5, E_5, S_6, E_6, S_4, E_4, S_2, E_2, S_1, E_1, S_L⟩ := G'
  show own_Ends _ _ _ _ _ _ _ s₁ (mkF m 0 #[.val (.int (2 : Int32))] [])
  refine own_st (fun _ kq => XS.iloadN X0.here hx rfl (hb hby d1_0) rfl kq) ?_
  show own_Ends _ _ _ _ _ _ _ s₁ (mkF m 1 #[.val (.int (2 : Int32))] [(.int (2 : Int32))])
  refine own_st (fun _ kq => XS.ifYes X0.here hx rfl (pc0 := 1) (pc' := 8) rfl (hb hby d1_1) rfl ((if0 _ _).trans (feq (by decide : ¬ ((2 : Int32) = (0 : Int32)))).2) (by decide) (by decide) kq) ?_
  show own_Ends _ _ _ _ _ _ _ s₁ (mkF m 8 #[.val (.int (2 : Int32))] [])
  refine own_st (fun _ kq => XS.iloadN X0.here hx rfl (hb hby d1_8) rfl kq) ?_
  show own_Ends _ _ _ _ _ _ _ s₁ (mkF m 9 #[.val (.int (2 : Int32))] [(.int (2 : Int32))])
  refine own_st (fun _ kq => XS.iconst X0.here hx rfl (hb hby d1_9) kq) ?_
  show own_Ends _ _ _ _ _ _ _ s₁ (mkF m 10 #[.val (.int (2 : Int32))] [(.int (1 : Int32)), (.int (2 : Int32))])
  refine own_st (fun _ kq => XS.icmpYes X0.here hx rfl (pc0 := 10) (pc' := 17) rfl (hb hby d1_10) rfl (feq (by decide : ¬ ((2 : Int32) = (1 : Int32)))).2 (by decide) (by decide) kq) ?_
  show own_Ends _ _ _ _ _ _ _ s₁ (mkF m 17 #[.val (.int (2 : Int32))] [])
  refine own_st (fun _ kq => XS.iloadN X0.here hx rfl (hb hby d1_17) rfl kq) ?_
  show own_Ends _ _ _ _ _ _ _ s₁ (mkF m 18 #[.val (.int (2 : Int32))] [(.int (2 : Int32))])
  refine own_st (fun _ kq => XS.iconst X0.here hx rfl (hb hby d1_18) kq) ?_
  show own_Ends _ _ _ _ _ _ _ s₁ (mkF m 19 #[.val (.int (2 : Int32))] [(.int (2 : Int32)), (.int (2 : Int32))])
  refine own_st (fun _ kq => XS.icmpNo X0.here hx rfl (hb hby d1_19) rfl (teq (by decide : (2 : Int32) = (2 : Int32))).2 kq) ?_
  show own_Ends _ _ _ _ _ _ _ s₁ (mkF m 22 #[.val (.int (2 : Int32))] [])
  obtain ⟨T1, X1, e1, st1⟩ := getS2 X0 hx hZ hown (host := "") (Or.inl (hw _ (List.mem_of_getElem? (i := 105) rfl))) Via.refl e0 (S_2.ext O0.2) (g := (mkF m 22 #[.val (.int (2 : Int32))] [])) rfl (hb hby d1_22)
  refine own_st st1 ?_
  show own_Ends _ _ _ _ _ _ _ T1 (mkF m 25 #[.val (.int (2 : Int32))] [(.ref r2)])
  refine own_retA X1 hx Bd.returns rfl rfl rfl (hb hby d1_25) hlk (by decide) (by decide) ?_
  show Q_rm_pick2 Z r0 rD r3 r5 r6 r4 r2 r1 rL h0 n0 _ T1.heap _
  rw [e1]
  exact ⟨rfl, N0, rfl⟩
theorem ef_rm_pick3 (m : MethodId) (x0 : Int32) : entryFrame m #[(.int x0)] 1 = mkF m 0 #[.val (.int x0)] [] := by first | (simp [entryFrame, mkF, argsToLocals, Value.category]; done) | rfl
def Q_rm_pick3 (Z : State) (r0 : Addr) (rD : Addr) (r3 : Addr) (r5 : Addr) (r6 : Addr) (r4 : Addr) (r2 : Addr) (r1 : Addr) (rL : Addr) (h0 : Heap) (n0 : Nat) (v : Option Value) (h : Heap) (L : List Loc) : Prop := v = some (.ref r3) ∧ Fr n0 L ∧ h = h0
set_option maxRecDepth 65536 in
set_option maxHeartbeats 40000000 in
theorem rm_pick3 (l : Launch) (Z : State) (a0 : Array Value) (hw : ∀ d ∈ tables_1, d.before a0 Z = true) (ws : List Jvm.Cond) (r0 : Addr) (rD : Addr) (r3 : Addr) (r5 : Addr) (r6 : Addr) (r4 : Addr) (r2 : Addr) (r1 : Addr) (rL : Addr) (h0 : Heap) (n0 : Nat) (O0 : Old Z n0 h0) (G : own_W Z r0 rD r3 r5 r6 r4 r2 r1 rL) :
    MetFree l (⟨"com/example/clear_tx/cleartx/TransactionDefinitionOfPinLaw", "pick", "(I)Lcom/example/clear_tx/cleartx/Propagation;"⟩ : MethodName) (head1 (Jvm.Cond.code (⟨"com/example/clear_tx/cleartx/TransactionDefinitionOfPinLaw", "pick", "(I)Lcom/example/clear_tx/cleartx/Propagation;"⟩ : MethodName) method_3_code 1 (some (.object "com/example/clear_tx/cleartx/Propagation")) :: ws) ({ frames := 0, cells := 0, slots := 0, locals := 0 } : Room)) (fun a U => a = #[(.int (3 : Int32))] ∧ Z.Warmed39 U.vm ∧ U.heap = h0) (fun _ _ _ _ _ => True) (fun _ U o U' => ∃ v L, o = .returned v ∧ Q_rm_pick3 Z r0 rD r3 r5 r6 r4 r2 r1 rL h0 n0 v U'.heap L ∧ FrameEnd U o U' L ({ frames := 0, cells := 0, slots := 0, locals := 0 } : Room).cells ({ frames := 0, cells := 0, slots := 0, locals := 0 } : Room).slots) := by
  refine MetFree.of_bodySF (plainFor_of_name pn_0) hisR ?_
  intro p e s m args below meth c s₁ Bd hml0 hP hK
  obtain ⟨rfl, hZ, hh⟩ := hP
  have hx := Bd.exec
  have hby := Bd.bytes
  have hml : c.maxLocals = 1 := hml0
  have hown : s.vm.findClass "com/example/clear_tx/cleartx/TransactionDefinitionOfPinLaw" = some m.cls := findClass_of_methodNamed Bd.named
  have hnm := (name_of_methodNamed Bd.named Bd.method).1
  have hlk := BodyLoose.notSynchronized Bd
  have X0 : Stand p l e ({ frames := 0, cells := 0, slots := 0, locals := 0 } : Room) s m #[(.int (3 : Int32))] below meth c s₁ [] 0 0 := Stand.of_body Bd
  have e0 : s₁.heap = h0 := by rw [← hh, Bd.state]; rfl
  have N0 := Fr.nil n0
  show own_Ends p e below s (Q_rm_pick3 Z r0 rD r3 r5 r6 r4 r2 r1 rL h0 n0) ({ frames := 0, cells := 0, slots := 0, locals := 0 } : Room).cells ({ frames := 0, cells := 0, slots := 0, locals := 0 } : Room).slots s₁ (entryFrame m #[(.int (3 : Int32))] 1)
  rw [ef_rm_pick3 m (3 : Int32)]
  have G' := G
  obtain ⟨S_0, E_0, S_D, E_D, S_3, E_3, S_5, E_5, S_6, E_6, S_4, E_4, S_2, E_2, S_1, E_1, S_L⟩ := G'
  show own_Ends _ _ _ _ _ _ _ s₁ (mkF m 0 #[.val (.int (3 : Int32))] [])
  refine own_st (fun _ kq => XS.iloadN X0.here hx rfl (hb hby d1_0) rfl kq) ?_
  show own_Ends _ _ _ _ _ _ _ s₁ (mkF m 1 #[.val (.int (3 : Int32))] [(.int (3 : Int32))])
  refine own_st (fun _ kq => XS.ifYes X0.here hx rfl (pc0 := 1) (pc' := 8) rfl (hb hby d1_1) rfl ((if0 _ _).trans (feq (by decide : ¬ ((3 : Int32) = (0 : Int32)))).2) (by decide) (by decide) kq) ?_
  show own_Ends _ _ _ _ _ _ _ s₁ (mkF m 8 #[.val (.int (3 : Int32))] [])
  refine own_st (fun _ kq => XS.iloadN X0.here hx rfl (hb hby d1_8) rfl kq) ?_
  show own_Ends _ _ _ _ _ _ _ s₁ (mkF m 9 #[.val (.int (3 : Int32))] [(.int (3 : Int32))])
  refine own_st (fun _ kq => XS.iconst X0.here hx rfl (hb hby d1_9) kq) ?_
  show own_Ends _ _ _ _ _ _ _ s₁ (mkF m 10 #[.val (.int (3 : Int32))] [(.int (1 : Int32)), (.int (3 : Int32))])
  refine own_st (fun _ kq => XS.icmpYes X0.here hx rfl (pc0 := 10) (pc' := 17) rfl (hb hby d1_10) rfl (feq (by decide : ¬ ((3 : Int32) = (1 : Int32)))).2 (by decide) (by decide) kq) ?_
  show own_Ends _ _ _ _ _ _ _ s₁ (mkF m 17 #[.val (.int (3 : Int32))] [])
  refine own_st (fun _ kq => XS.iloadN X0.here hx rfl (hb hby d1_17) rfl kq) ?_
  show own_Ends _ _ _ _ _ _ _ s₁ (mkF m 18 #[.val (.int (3 : Int32))] [(.int (3 : Int32))])
  refine own_st (fun _ kq => XS.iconst X0.here hx rfl (hb hby d1_18) kq) ?_
  show own_Ends _ _ _ _ _ _ _ s₁ (mkF m 19 #[.val (.int (3 : Int32))] [(.int (2 : Int32)), (.int (3 : Int32))])
  refine own_st (fun _ kq => XS.icmpYes X0.here hx rfl (pc0 := 19) (pc' := 26) rfl (hb hby d1_19) rfl (feq (by decide : ¬ ((3 : Int32) = (2 : Int32)))).2 (by decide) (by decide) kq) ?_
  show own_Ends _ _ _ _ _ _ _ s₁ (mkF m 26 #[.val (.int (3 : Int32))] [])
  refine own_st (fun _ kq => XS.iloadN X0.here hx rfl (hb hby d1_26) rfl kq) ?_
  show own_Ends _ _ _ _ _ _ _ s₁ (mkF m 27 #[.val (.int (3 : Int32))] [(.int (3 : Int32))])
  refine own_st (fun _ kq => XS.iconst X0.here hx rfl (hb hby d1_27) kq) ?_
  show own_Ends _ _ _ _ _ _ _ s₁ (mkF m 28 #[.val (.int (3 : Int32))] [(.int (3 : Int32)), (.int (3 : Int32))])
  refine own_st (fun _ kq => XS.icmpNo X0.here hx rfl (hb hby d1_28) rfl (teq (by decide : (3 : Int32) = (3 : Int32))).2 kq) ?_
  show own_Ends _ _ _ _ _ _ _ s₁ (mkF m 31 #[.val (.int (3 : Int32))] [])
  obtain ⟨T1, X1, e1, st1⟩ := getS2 X0 hx hZ hown (host := "") (Or.inl (hw _ (List.mem_of_getElem? (i := 97) rfl))) Via.refl e0 (S_3.ext O0.2) (g := (mkF m 31 #[.val (.int (3 : Int32))] [])) rfl (hb hby d1_31)
  refine own_st st1 ?_
  show own_Ends _ _ _ _ _ _ _ T1 (mkF m 34 #[.val (.int (3 : Int32))] [(.ref r3)])
  refine own_retA X1 hx Bd.returns rfl rfl rfl (hb hby d1_34) hlk (by decide) (by decide) ?_
  show Q_rm_pick3 Z r0 rD r3 r5 r6 r4 r2 r1 rL h0 n0 _ T1.heap _
  rw [e1]
  exact ⟨rfl, N0, rfl⟩
theorem ef_rm_pick4 (m : MethodId) (x0 : Int32) : entryFrame m #[(.int x0)] 1 = mkF m 0 #[.val (.int x0)] [] := by first | (simp [entryFrame, mkF, argsToLocals, Value.category]; done) | rfl
def Q_rm_pick4 (Z : State) (r0 : Addr) (rD : Addr) (r3 : Addr) (r5 : Addr) (r6 : Addr) (r4 : Addr) (r2 : Addr) (r1 : Addr) (rL : Addr) (h0 : Heap) (n0 : Nat) (v : Option Value) (h : Heap) (L : List Loc) : Prop := v = some (.ref r4) ∧ Fr n0 L ∧ h = h0
set_option maxRecDepth 65536 in
set_option maxHeartbeats 40000000 in
theorem rm_pick4 (l : Launch) (Z : State) (a0 : Array Value) (hw : ∀ d ∈ tables_1, d.before a0 Z = true) (ws : List Jvm.Cond) (r0 : Addr) (rD : Addr) (r3 : Addr) (r5 : Addr) (r6 : Addr) (r4 : Addr) (r2 : Addr) (r1 : Addr) (rL : Addr) (h0 : Heap) (n0 : Nat) (O0 : Old Z n0 h0) (G : own_W Z r0 rD r3 r5 r6 r4 r2 r1 rL) :
    MetFree l (⟨"com/example/clear_tx/cleartx/TransactionDefinitionOfPinLaw", "pick", "(I)Lcom/example/clear_tx/cleartx/Propagation;"⟩ : MethodName) (head1 (Jvm.Cond.code (⟨"com/example/clear_tx/cleartx/TransactionDefinitionOfPinLaw", "pick", "(I)Lcom/example/clear_tx/cleartx/Propagation;"⟩ : MethodName) method_3_code 1 (some (.object "com/example/clear_tx/cleartx/Propagation")) :: ws) ({ frames := 0, cells := 0, slots := 0, locals := 0 } : Room)) (fun a U => a = #[(.int (4 : Int32))] ∧ Z.Warmed39 U.vm ∧ U.heap = h0) (fun _ _ _ _ _ => True) (fun _ U o U' => ∃ v L, o = .returned v ∧ Q_rm_pick4 Z r0 rD r3 r5 r6 r4 r2 r1 rL h0 n0 v U'.heap L ∧ FrameEnd U o U' L ({ frames := 0, cells := 0, slots := 0, locals := 0 } : Room).cells ({ frames := 0, cells := 0, slots := 0, locals := 0 } : Room).slots) := by
  refine MetFree.of_bodySF (plainFor_of_name pn_0) hisR ?_
  intro p e s m args below meth c s₁ Bd hml0 hP hK
  obtain ⟨rfl, hZ, hh⟩ := hP
  have hx := Bd.exec
  have hby := Bd.bytes
  have hml : c.maxLocals = 1 := hml0
  have hown : s.vm.findClass "com/example/clear_tx/cleartx/TransactionDefinitionOfPinLaw" = some m.cls := findClass_of_methodNamed Bd.named
  have hnm := (name_of_methodNamed Bd.named Bd.method).1
  have hlk := BodyLoose.notSynchronized Bd
  have X0 : Stand p l e ({ frames := 0, cells := 0, slots := 0, locals := 0 } : Room) s m #[(.int (4 : Int32))] below meth c s₁ [] 0 0 := Stand.of_body Bd
  have e0 : s₁.heap = h0 := by rw [← hh, Bd.state]; rfl
  have N0 := Fr.nil n0
  show own_Ends p e below s (Q_rm_pick4 Z r0 rD r3 r5 r6 r4 r2 r1 rL h0 n0) ({ frames := 0, cells := 0, slots := 0, locals := 0 } : Room).cells ({ frames := 0, cells := 0, slots := 0, locals := 0 } : Room).slots s₁ (entryFrame m #[(.int (4 : Int32))] 1)
  rw [ef_rm_pick4 m (4 : Int32)]
  have G' := G
  obtain ⟨S_0, E_0, S_D, E_D, S_3, E_3, S_5, E_5, S_6, E_6, S_4, E_4, S_2, E_2, S_1, E_1, S_L⟩ := G'
  show own_Ends _ _ _ _ _ _ _ s₁ (mkF m 0 #[.val (.int (4 : Int32))] [])
  refine own_st (fun _ kq => XS.iloadN X0.here hx rfl (hb hby d1_0) rfl kq) ?_
  show own_Ends _ _ _ _ _ _ _ s₁ (mkF m 1 #[.val (.int (4 : Int32))] [(.int (4 : Int32))])
  refine own_st (fun _ kq => XS.ifYes X0.here hx rfl (pc0 := 1) (pc' := 8) rfl (hb hby d1_1) rfl ((if0 _ _).trans (feq (by decide : ¬ ((4 : Int32) = (0 : Int32)))).2) (by decide) (by decide) kq) ?_
  show own_Ends _ _ _ _ _ _ _ s₁ (mkF m 8 #[.val (.int (4 : Int32))] [])
  refine own_st (fun _ kq => XS.iloadN X0.here hx rfl (hb hby d1_8) rfl kq) ?_
  show own_Ends _ _ _ _ _ _ _ s₁ (mkF m 9 #[.val (.int (4 : Int32))] [(.int (4 : Int32))])
  refine own_st (fun _ kq => XS.iconst X0.here hx rfl (hb hby d1_9) kq) ?_
  show own_Ends _ _ _ _ _ _ _ s₁ (mkF m 10 #[.val (.int (4 : Int32))] [(.int (1 : Int32)), (.int (4 : Int32))])
  refine own_st (fun _ kq => XS.icmpYes X0.here hx rfl (pc0 := 10) (pc' := 17) rfl (hb hby d1_10) rfl (feq (by decide : ¬ ((4 : Int32) = (1 : Int32)))).2 (by decide) (by decide) kq) ?_
  show own_Ends _ _ _ _ _ _ _ s₁ (mkF m 17 #[.val (.int (4 : Int32))] [])
  refine own_st (fun _ kq => XS.iloadN X0.here hx rfl (hb hby d1_17) rfl kq) ?_
  show own_Ends _ _ _ _ _ _ _ s₁ (mkF m 18 #[.val (.int (4 : Int32))] [(.int (4 : Int32))])
  refine own_st (fun _ kq => XS.iconst X0.here hx rfl (hb hby d1_18) kq) ?_
  show own_Ends _ _ _ _ _ _ _ s₁ (mkF m 19 #[.val (.int (4 : Int32))] [(.int (2 : Int32)), (.int (4 : Int32))])
  refine own_st (fun _ kq => XS.icmpYes X0.here hx rfl (pc0 := 19) (pc' := 26) rfl (hb hby d1_19) rfl (feq (by decide : ¬ ((4 : Int32) = (2 : Int32)))).2 (by decide) (by decide) kq) ?_
  show own_Ends _ _ _ _ _ _ _ s₁ (mkF m 26 #[.val (.int (4 : Int32))] [])
  refine own_st (fun _ kq => XS.iloadN X0.here hx rfl (hb hby d1_26) rfl kq) ?_
  show own_Ends _ _ _ _ _ _ _ s₁ (mkF m 27 #[.val (.int (4 : Int32))] [(.int (4 : Int32))])
  refine own_st (fun _ kq => XS.iconst X0.here hx rfl (hb hby d1_27) kq) ?_
  show own_Ends _ _ _ _ _ _ _ s₁ (mkF m 28 #[.val (.int (4 : Int32))] [(.int (3 : Int32)), (.int (4 : Int32))])
  refine own_st (fun _ kq => XS.icmpYes X0.here hx rfl (pc0 := 28) (pc' := 35) rfl (hb hby d1_28) rfl (feq (by decide : ¬ ((4 : Int32) = (3 : Int32)))).2 (by decide) (by decide) kq) ?_
  show own_Ends _ _ _ _ _ _ _ s₁ (mkF m 35 #[.val (.int (4 : Int32))] [])
  refine own_st (fun _ kq => XS.iloadN X0.here hx rfl (hb hby d1_35) rfl kq) ?_
  show own_Ends _ _ _ _ _ _ _ s₁ (mkF m 36 #[.val (.int (4 : Int32))] [(.int (4 : Int32))])
  refine own_st (fun _ kq => XS.iconst X0.here hx rfl (hb hby d1_36) kq) ?_
  show own_Ends _ _ _ _ _ _ _ s₁ (mkF m 37 #[.val (.int (4 : Int32))] [(.int (4 : Int32)), (.int (4 : Int32))])
  refine own_st (fun _ kq => XS.icmpNo X0.here hx rfl (hb hby d1_37) rfl (teq (by decide : (4 : Int32) = (4 : Int32))).2 kq) ?_
  show own_Ends _ _ _ _ _ _ _ s₁ (mkF m 40 #[.val (.int (4 : Int32))] [])
  obtain ⟨T1, X1, e1, st1⟩ := getS2 X0 hx hZ hown (host := "") (Or.inl (hw _ (List.mem_of_getElem? (i := 103) rfl))) Via.refl e0 (S_4.ext O0.2) (g := (mkF m 40 #[.val (.int (4 : Int32))] [])) rfl (hb hby d1_40)
  refine own_st st1 ?_
  show own_Ends _ _ _ _ _ _ _ T1 (mkF m 43 #[.val (.int (4 : Int32))] [(.ref r4)])
  refine own_retA X1 hx Bd.returns rfl rfl rfl (hb hby d1_43) hlk (by decide) (by decide) ?_
  show Q_rm_pick4 Z r0 rD r3 r5 r6 r4 r2 r1 rL h0 n0 _ T1.heap _
  rw [e1]
  exact ⟨rfl, N0, rfl⟩
theorem ef_rm_pick5 (m : MethodId) (x0 : Int32) : entryFrame m #[(.int x0)] 1 = mkF m 0 #[.val (.int x0)] [] := by first | (simp [entryFrame, mkF, argsToLocals, Value.category]; done) | rfl
def Q_rm_pick5 (Z : State) (r0 : Addr) (rD : Addr) (r3 : Addr) (r5 : Addr) (r6 : Addr) (r4 : Addr) (r2 : Addr) (r1 : Addr) (rL : Addr) (h0 : Heap) (n0 : Nat) (v : Option Value) (h : Heap) (L : List Loc) : Prop := v = some (.ref r5) ∧ Fr n0 L ∧ h = h0
set_option maxRecDepth 65536 in
set_option maxHeartbeats 40000000 in
theorem rm_pick5 (l : Launch) (Z : State) (a0 : Array Value) (hw : ∀ d ∈ tables_1, d.before a0 Z = true) (ws : List Jvm.Cond) (r0 : Addr) (rD : Addr) (r3 : Addr) (r5 : Addr) (r6 : Addr) (r4 : Addr) (r2 : Addr) (r1 : Addr) (rL : Addr) (h0 : Heap) (n0 : Nat) (O0 : Old Z n0 h0) (G : own_W Z r0 rD r3 r5 r6 r4 r2 r1 rL) :
    MetFree l (⟨"com/example/clear_tx/cleartx/TransactionDefinitionOfPinLaw", "pick", "(I)Lcom/example/clear_tx/cleartx/Propagation;"⟩ : MethodName) (head1 (Jvm.Cond.code (⟨"com/example/clear_tx/cleartx/TransactionDefinitionOfPinLaw", "pick", "(I)Lcom/example/clear_tx/cleartx/Propagation;"⟩ : MethodName) method_3_code 1 (some (.object "com/example/clear_tx/cleartx/Propagation")) :: ws) ({ frames := 0, cells := 0, slots := 0, locals := 0 } : Room)) (fun a U => a = #[(.int (5 : Int32))] ∧ Z.Warmed39 U.vm ∧ U.heap = h0) (fun _ _ _ _ _ => True) (fun _ U o U' => ∃ v L, o = .returned v ∧ Q_rm_pick5 Z r0 rD r3 r5 r6 r4 r2 r1 rL h0 n0 v U'.heap L ∧ FrameEnd U o U' L ({ frames := 0, cells := 0, slots := 0, locals := 0 } : Room).cells ({ frames := 0, cells := 0, slots := 0, locals := 0 } : Room).slots) := by
  refine MetFree.of_bodySF (plainFor_of_name pn_0) hisR ?_
  intro p e s m args below meth c s₁ Bd hml0 hP hK
  obtain ⟨rfl, hZ, hh⟩ := hP
  have hx := Bd.exec
  have hby := Bd.bytes
  have hml : c.maxLocals = 1 := hml0
  have hown : s.vm.findClass "com/example/clear_tx/cleartx/TransactionDefinitionOfPinLaw" = some m.cls := findClass_of_methodNamed Bd.named
  have hnm := (name_of_methodNamed Bd.named Bd.method).1
  have hlk := BodyLoose.notSynchronized Bd
  have X0 : Stand p l e ({ frames := 0, cells := 0, slots := 0, locals := 0 } : Room) s m #[(.int (5 : Int32))] below meth c s₁ [] 0 0 := Stand.of_body Bd
  have e0 : s₁.heap = h0 := by rw [← hh, Bd.state]; rfl
  have N0 := Fr.nil n0
  show own_Ends p e below s (Q_rm_pick5 Z r0 rD r3 r5 r6 r4 r2 r1 rL h0 n0) ({ frames := 0, cells := 0, slots := 0, locals := 0 } : Room).cells ({ frames := 0, cells := 0, slots := 0, locals := 0 } : Room).slots s₁ (entryFrame m #[(.int (5 : Int32))] 1)
  rw [ef_rm_pick5 m (5 : Int32)]
  have G' := G
  obtain ⟨S_0, E_0, S_D, E_D, S_3, E_3, S_5, E_5, S_6, E_6, S_4, E_4, S_2, E_2, S_1, E_1, S_L⟩ := G'
  show own_Ends _ _ _ _ _ _ _ s₁ (mkF m 0 #[.val (.int (5 : Int32))] [])
  refine own_st (fun _ kq => XS.iloadN X0.here hx rfl (hb hby d1_0) rfl kq) ?_
  show own_Ends _ _ _ _ _ _ _ s₁ (mkF m 1 #[.val (.int (5 : Int32))] [(.int (5 : Int32))])
  refine own_st (fun _ kq => XS.ifYes X0.here hx rfl (pc0 := 1) (pc' := 8) rfl (hb hby d1_1) rfl ((if0 _ _).trans (feq (by decide : ¬ ((5 : Int32) = (0 : Int32)))).2) (by decide) (by decide) kq) ?_
  show own_Ends _ _ _ _ _ _ _ s₁ (mkF m 8 #[.val (.int (5 : Int32))] [])
  refine own_st (fun _ kq => XS.iloadN X0.here hx rfl (hb hby d1_8) rfl kq) ?_
  show own_Ends _ _ _ _ _ _ _ s₁ (mkF m 9 #[.val (.int (5 : Int32))] [(.int (5 : Int32))])
  refine own_st (fun _ kq => XS.iconst X0.here hx rfl (hb hby d1_9) kq) ?_
  show own_Ends _ _ _ _ _ _ _ s₁ (mkF m 10 #[.val (.int (5 : Int32))] [(.int (1 : Int32)), (.int (5 : Int32))])
  refine own_st (fun _ kq => XS.icmpYes X0.here hx rfl (pc0 := 10) (pc' := 17) rfl (hb hby d1_10) rfl (feq (by decide : ¬ ((5 : Int32) = (1 : Int32)))).2 (by decide) (by decide) kq) ?_
  show own_Ends _ _ _ _ _ _ _ s₁ (mkF m 17 #[.val (.int (5 : Int32))] [])
  refine own_st (fun _ kq => XS.iloadN X0.here hx rfl (hb hby d1_17) rfl kq) ?_
  show own_Ends _ _ _ _ _ _ _ s₁ (mkF m 18 #[.val (.int (5 : Int32))] [(.int (5 : Int32))])
  refine own_st (fun _ kq => XS.iconst X0.here hx rfl (hb hby d1_18) kq) ?_
  show own_Ends _ _ _ _ _ _ _ s₁ (mkF m 19 #[.val (.int (5 : Int32))] [(.int (2 : Int32)), (.int (5 : Int32))])
  refine own_st (fun _ kq => XS.icmpYes X0.here hx rfl (pc0 := 19) (pc' := 26) rfl (hb hby d1_19) rfl (feq (by decide : ¬ ((5 : Int32) = (2 : Int32)))).2 (by decide) (by decide) kq) ?_
  show own_Ends _ _ _ _ _ _ _ s₁ (mkF m 26 #[.val (.int (5 : Int32))] [])
  refine own_st (fun _ kq => XS.iloadN X0.here hx rfl (hb hby d1_26) rfl kq) ?_
  show own_Ends _ _ _ _ _ _ _ s₁ (mkF m 27 #[.val (.int (5 : Int32))] [(.int (5 : Int32))])
  refine own_st (fun _ kq => XS.iconst X0.here hx rfl (hb hby d1_27) kq) ?_
  show own_Ends _ _ _ _ _ _ _ s₁ (mkF m 28 #[.val (.int (5 : Int32))] [(.int (3 : Int32)), (.int (5 : Int32))])
  refine own_st (fun _ kq => XS.icmpYes X0.here hx rfl (pc0 := 28) (pc' := 35) rfl (hb hby d1_28) rfl (feq (by decide : ¬ ((5 : Int32) = (3 : Int32)))).2 (by decide) (by decide) kq) ?_
  show own_Ends _ _ _ _ _ _ _ s₁ (mkF m 35 #[.val (.int (5 : Int32))] [])
  refine own_st (fun _ kq => XS.iloadN X0.here hx rfl (hb hby d1_35) rfl kq) ?_
  show own_Ends _ _ _ _ _ _ _ s₁ (mkF m 36 #[.val (.int (5 : Int32))] [(.int (5 : Int32))])
  refine own_st (fun _ kq => XS.iconst X0.here hx rfl (hb hby d1_36) kq) ?_
  show own_Ends _ _ _ _ _ _ _ s₁ (mkF m 37 #[.val (.int (5 : Int32))] [(.int (4 : Int32)), (.int (5 : Int32))])
  refine own_st (fun _ kq => XS.icmpYes X0.here hx rfl (pc0 := 37) (pc' := 44) rfl (hb hby d1_37) rfl (feq (by decide : ¬ ((5 : Int32) = (4 : Int32)))).2 (by decide) (by decide) kq) ?_
  show own_Ends _ _ _ _ _ _ _ s₁ (mkF m 44 #[.val (.int (5 : Int32))] [])
  refine own_st (fun _ kq => XS.iloadN X0.here hx rfl (hb hby d1_44) rfl kq) ?_
  show own_Ends _ _ _ _ _ _ _ s₁ (mkF m 45 #[.val (.int (5 : Int32))] [(.int (5 : Int32))])
  refine own_st (fun _ kq => XS.iconst X0.here hx rfl (hb hby d1_45) kq) ?_
  show own_Ends _ _ _ _ _ _ _ s₁ (mkF m 46 #[.val (.int (5 : Int32))] [(.int (5 : Int32)), (.int (5 : Int32))])
  refine own_st (fun _ kq => XS.icmpNo X0.here hx rfl (hb hby d1_46) rfl (teq (by decide : (5 : Int32) = (5 : Int32))).2 kq) ?_
  show own_Ends _ _ _ _ _ _ _ s₁ (mkF m 49 #[.val (.int (5 : Int32))] [])
  obtain ⟨T1, X1, e1, st1⟩ := getS2 X0 hx hZ hown (host := "") (Or.inl (hw _ (List.mem_of_getElem? (i := 99) rfl))) Via.refl e0 (S_5.ext O0.2) (g := (mkF m 49 #[.val (.int (5 : Int32))] [])) rfl (hb hby d1_49)
  refine own_st st1 ?_
  show own_Ends _ _ _ _ _ _ _ T1 (mkF m 52 #[.val (.int (5 : Int32))] [(.ref r5)])
  refine own_retA X1 hx Bd.returns rfl rfl rfl (hb hby d1_52) hlk (by decide) (by decide) ?_
  show Q_rm_pick5 Z r0 rD r3 r5 r6 r4 r2 r1 rL h0 n0 _ T1.heap _
  rw [e1]
  exact ⟨rfl, N0, rfl⟩
theorem ef_rm_pick6 (m : MethodId) (x0 : Int32) : entryFrame m #[(.int x0)] 1 = mkF m 0 #[.val (.int x0)] [] := by first | (simp [entryFrame, mkF, argsToLocals, Value.category]; done) | rfl
def Q_rm_pick6 (Z : State) (r0 : Addr) (rD : Addr) (r3 : Addr) (r5 : Addr) (r6 : Addr) (r4 : Addr) (r2 : Addr) (r1 : Addr) (rL : Addr) (h0 : Heap) (n0 : Nat) (v : Option Value) (h : Heap) (L : List Loc) : Prop := v = some (.ref r6) ∧ Fr n0 L ∧ h = h0
set_option maxRecDepth 65536 in
set_option maxHeartbeats 40000000 in
theorem rm_pick6 (l : Launch) (Z : State) (a0 : Array Value) (hw : ∀ d ∈ tables_1, d.before a0 Z = true) (ws : List Jvm.Cond) (r0 : Addr) (rD : Addr) (r3 : Addr) (r5 : Addr) (r6 : Addr) (r4 : Addr) (r2 : Addr) (r1 : Addr) (rL : Addr) (h0 : Heap) (n0 : Nat) (O0 : Old Z n0 h0) (G : own_W Z r0 rD r3 r5 r6 r4 r2 r1 rL) :
    MetFree l (⟨"com/example/clear_tx/cleartx/TransactionDefinitionOfPinLaw", "pick", "(I)Lcom/example/clear_tx/cleartx/Propagation;"⟩ : MethodName) (head1 (Jvm.Cond.code (⟨"com/example/clear_tx/cleartx/TransactionDefinitionOfPinLaw", "pick", "(I)Lcom/example/clear_tx/cleartx/Propagation;"⟩ : MethodName) method_3_code 1 (some (.object "com/example/clear_tx/cleartx/Propagation")) :: ws) ({ frames := 0, cells := 0, slots := 0, locals := 0 } : Room)) (fun a U => a = #[(.int (6 : Int32))] ∧ Z.Warmed39 U.vm ∧ U.heap = h0) (fun _ _ _ _ _ => True) (fun _ U o U' => ∃ v L, o = .returned v ∧ Q_rm_pick6 Z r0 rD r3 r5 r6 r4 r2 r1 rL h0 n0 v U'.heap L ∧ FrameEnd U o U' L ({ frames := 0, cells := 0, slots := 0, locals := 0 } : Room).cells ({ frames := 0, cells := 0, slots := 0, locals := 0 } : Room).slots) := by
  refine MetFree.of_bodySF (plainFor_of_name pn_0) hisR ?_
  intro p e s m args below meth c s₁ Bd hml0 hP hK
  obtain ⟨rfl, hZ, hh⟩ := hP
  have hx := Bd.exec
  have hby := Bd.bytes
  have hml : c.maxLocals = 1 := hml0
  have hown : s.vm.findClass "com/example/clear_tx/cleartx/TransactionDefinitionOfPinLaw" = some m.cls := findClass_of_methodNamed Bd.named
  have hnm := (name_of_methodNamed Bd.named Bd.method).1
  have hlk := BodyLoose.notSynchronized Bd
  have X0 : Stand p l e ({ frames := 0, cells := 0, slots := 0, locals := 0 } : Room) s m #[(.int (6 : Int32))] below meth c s₁ [] 0 0 := Stand.of_body Bd
  have e0 : s₁.heap = h0 := by rw [← hh, Bd.state]; rfl
  have N0 := Fr.nil n0
  show own_Ends p e below s (Q_rm_pick6 Z r0 rD r3 r5 r6 r4 r2 r1 rL h0 n0) ({ frames := 0, cells := 0, slots := 0, locals := 0 } : Room).cells ({ frames := 0, cells := 0, slots := 0, locals := 0 } : Room).slots s₁ (entryFrame m #[(.int (6 : Int32))] 1)
  rw [ef_rm_pick6 m (6 : Int32)]
  have G' := G
  obtain ⟨S_0, E_0, S_D, E_D, S_3, E_3, S_5, E_5, S_6, E_6, S_4, E_4, S_2, E_2, S_1, E_1, S_L⟩ := G'
  show own_Ends _ _ _ _ _ _ _ s₁ (mkF m 0 #[.val (.int (6 : Int32))] [])
  refine own_st (fun _ kq => XS.iloadN X0.here hx rfl (hb hby d1_0) rfl kq) ?_
  show own_Ends _ _ _ _ _ _ _ s₁ (mkF m 1 #[.val (.int (6 : Int32))] [(.int (6 : Int32))])
  refine own_st (fun _ kq => XS.ifYes X0.here hx rfl (pc0 := 1) (pc' := 8) rfl (hb hby d1_1) rfl ((if0 _ _).trans (feq (by decide : ¬ ((6 : Int32) = (0 : Int32)))).2) (by decide) (by decide) kq) ?_
  show own_Ends _ _ _ _ _ _ _ s₁ (mkF m 8 #[.val (.int (6 : Int32))] [])
  refine own_st (fun _ kq => XS.iloadN X0.here hx rfl (hb hby d1_8) rfl kq) ?_
  show own_Ends _ _ _ _ _ _ _ s₁ (mkF m 9 #[.val (.int (6 : Int32))] [(.int (6 : Int32))])
  refine own_st (fun _ kq => XS.iconst X0.here hx rfl (hb hby d1_9) kq) ?_
  show own_Ends _ _ _ _ _ _ _ s₁ (mkF m 10 #[.val (.int (6 : Int32))] [(.int (1 : Int32)), (.int (6 : Int32))])
  refine own_st (fun _ kq => XS.icmpYes X0.here hx rfl (pc0 := 10) (pc' := 17) rfl (hb hby d1_10) rfl (feq (by decide : ¬ ((6 : Int32) = (1 : Int32)))).2 (by decide) (by decide) kq) ?_
  show own_Ends _ _ _ _ _ _ _ s₁ (mkF m 17 #[.val (.int (6 : Int32))] [])
  refine own_st (fun _ kq => XS.iloadN X0.here hx rfl (hb hby d1_17) rfl kq) ?_
  show own_Ends _ _ _ _ _ _ _ s₁ (mkF m 18 #[.val (.int (6 : Int32))] [(.int (6 : Int32))])
  refine own_st (fun _ kq => XS.iconst X0.here hx rfl (hb hby d1_18) kq) ?_
  show own_Ends _ _ _ _ _ _ _ s₁ (mkF m 19 #[.val (.int (6 : Int32))] [(.int (2 : Int32)), (.int (6 : Int32))])
  refine own_st (fun _ kq => XS.icmpYes X0.here hx rfl (pc0 := 19) (pc' := 26) rfl (hb hby d1_19) rfl (feq (by decide : ¬ ((6 : Int32) = (2 : Int32)))).2 (by decide) (by decide) kq) ?_
  show own_Ends _ _ _ _ _ _ _ s₁ (mkF m 26 #[.val (.int (6 : Int32))] [])
  refine own_st (fun _ kq => XS.iloadN X0.here hx rfl (hb hby d1_26) rfl kq) ?_
  show own_Ends _ _ _ _ _ _ _ s₁ (mkF m 27 #[.val (.int (6 : Int32))] [(.int (6 : Int32))])
  refine own_st (fun _ kq => XS.iconst X0.here hx rfl (hb hby d1_27) kq) ?_
  show own_Ends _ _ _ _ _ _ _ s₁ (mkF m 28 #[.val (.int (6 : Int32))] [(.int (3 : Int32)), (.int (6 : Int32))])
  refine own_st (fun _ kq => XS.icmpYes X0.here hx rfl (pc0 := 28) (pc' := 35) rfl (hb hby d1_28) rfl (feq (by decide : ¬ ((6 : Int32) = (3 : Int32)))).2 (by decide) (by decide) kq) ?_
  show own_Ends _ _ _ _ _ _ _ s₁ (mkF m 35 #[.val (.int (6 : Int32))] [])
  refine own_st (fun _ kq => XS.iloadN X0.here hx rfl (hb hby d1_35) rfl kq) ?_
  show own_Ends _ _ _ _ _ _ _ s₁ (mkF m 36 #[.val (.int (6 : Int32))] [(.int (6 : Int32))])
  refine own_st (fun _ kq => XS.iconst X0.here hx rfl (hb hby d1_36) kq) ?_
  show own_Ends _ _ _ _ _ _ _ s₁ (mkF m 37 #[.val (.int (6 : Int32))] [(.int (4 : Int32)), (.int (6 : Int32))])
  refine own_st (fun _ kq => XS.icmpYes X0.here hx rfl (pc0 := 37) (pc' := 44) rfl (hb hby d1_37) rfl (feq (by decide : ¬ ((6 : Int32) = (4 : Int32)))).2 (by decide) (by decide) kq) ?_
  show own_Ends _ _ _ _ _ _ _ s₁ (mkF m 44 #[.val (.int (6 : Int32))] [])
  refine own_st (fun _ kq => XS.iloadN X0.here hx rfl (hb hby d1_44) rfl kq) ?_
  show own_Ends _ _ _ _ _ _ _ s₁ (mkF m 45 #[.val (.int (6 : Int32))] [(.int (6 : Int32))])
  refine own_st (fun _ kq => XS.iconst X0.here hx rfl (hb hby d1_45) kq) ?_
  show own_Ends _ _ _ _ _ _ _ s₁ (mkF m 46 #[.val (.int (6 : Int32))] [(.int (5 : Int32)), (.int (6 : Int32))])
  refine own_st (fun _ kq => XS.icmpYes X0.here hx rfl (pc0 := 46) (pc' := 53) rfl (hb hby d1_46) rfl (feq (by decide : ¬ ((6 : Int32) = (5 : Int32)))).2 (by decide) (by decide) kq) ?_
  show own_Ends _ _ _ _ _ _ _ s₁ (mkF m 53 #[.val (.int (6 : Int32))] [])
  obtain ⟨T1, X1, e1, st1⟩ := getS2 X0 hx hZ hown (host := "") (Or.inl (hw _ (List.mem_of_getElem? (i := 101) rfl))) Via.refl e0 (S_6.ext O0.2) (g := (mkF m 53 #[.val (.int (6 : Int32))] [])) rfl (hb hby d1_53)
  refine own_st st1 ?_
  show own_Ends _ _ _ _ _ _ _ T1 (mkF m 56 #[.val (.int (6 : Int32))] [(.ref r6)])
  refine own_retA X1 hx Bd.returns rfl rfl rfl (hb hby d1_56) hlk (by decide) (by decide) ?_
  show Q_rm_pick6 Z r0 rD r3 r5 r6 r4 r2 r1 rL h0 n0 _ T1.heap _
  rw [e1]
  exact ⟨rfl, N0, rfl⟩
theorem d3_0 : decode jdk_31_method_11_code 0 = .ok (.aload_n 0, 1) := by decide +kernel
theorem d3_1 : decode jdk_31_method_11_code 1 = .ok (.ifnonnull 12, 3) := by decide +kernel
theorem d3_4 : decode jdk_31_method_11_code 4 = .ok (.new 84, 3) := by decide +kernel
theorem d3_7 : decode jdk_31_method_11_code 7 = .ok (.dup, 1) := by decide +kernel
theorem d3_8 : decode jdk_31_method_11_code 8 = .ok (.aload_n 1, 1) := by decide +kernel
theorem d3_9 : decode jdk_31_method_11_code 9 = .ok (.invokespecial 87, 3) := by decide +kernel
theorem d3_12 : decode jdk_31_method_11_code 12 = .ok (.athrow, 1) := by decide +kernel
theorem d3_13 : decode jdk_31_method_11_code 13 = .ok (.aload_n 0, 1) := by decide +kernel
theorem d3_14 : decode jdk_31_method_11_code 14 = .ok (.areturn, 1) := by decide +kernel
theorem pn_1 : plainName "java/util/Objects" = true := by first | (simp [plainName, overriddenIn]; done) | decide +kernel
theorem ef_rm_req (m : MethodId) (x0 : Addr) (x1 : Addr) : entryFrame m #[(.ref x0), (.ref x1)] 2 = mkF m 0 #[.val (.ref x0), .val (.ref x1)] [] := by first | (simp [entryFrame, mkF, argsToLocals, Value.category]; done) | rfl
def Q_rm_req (Z : State) (a1 : Addr) (a2 : Addr) (h0 : Heap) (n0 : Nat) (v : Option Value) (h : Heap) (L : List Loc) : Prop := v = some (.ref a1) ∧ Fr n0 L ∧ h = h0
set_option maxRecDepth 65536 in
set_option maxHeartbeats 40000000 in
theorem rm_req (l : Launch) (Z : State) (a0 : Array Value) (hw : ∀ d ∈ tables_1, d.before a0 Z = true) (ws : List Jvm.Cond) (a1 : Addr) (a2 : Addr) (h0 : Heap) (n0 : Nat) (O0 : Old Z n0 h0) :
    MetFree l (⟨"java/util/Objects", "requireNonNull", "(Ljava/lang/Object;Ljava/lang/String;)Ljava/lang/Object;"⟩ : MethodName) (head1 (Jvm.Cond.code (⟨"java/util/Objects", "requireNonNull", "(Ljava/lang/Object;Ljava/lang/String;)Ljava/lang/Object;"⟩ : MethodName) jdk_31_method_11_code 2 (some (.object "java/lang/Object")) :: ws) ({ frames := 0, cells := 0, slots := 0, locals := 0 } : Room)) (fun a U => a = #[(.ref a1), (.ref a2)] ∧ Z.Warmed39 U.vm ∧ U.heap = h0) (fun _ _ _ _ _ => True) (fun _ U o U' => ∃ v L, o = .returned v ∧ Q_rm_req Z a1 a2 h0 n0 v U'.heap L ∧ FrameEnd U o U' L ({ frames := 0, cells := 0, slots := 0, locals := 0 } : Room).cells ({ frames := 0, cells := 0, slots := 0, locals := 0 } : Room).slots) := by
  refine MetFree.of_bodySF (plainFor_of_name pn_1) hisR ?_
  intro p e s m args below meth c s₁ Bd hml0 hP hK
  obtain ⟨rfl, hZ, hh⟩ := hP
  have hx := Bd.exec
  have hby := Bd.bytes
  have hml : c.maxLocals = 2 := hml0
  have hown : s.vm.findClass "java/util/Objects" = some m.cls := findClass_of_methodNamed Bd.named
  have hnm := (name_of_methodNamed Bd.named Bd.method).1
  have hlk := BodyLoose.notSynchronized Bd
  have X0 : Stand p l e ({ frames := 0, cells := 0, slots := 0, locals := 0 } : Room) s m #[(.ref a1), (.ref a2)] below meth c s₁ [] 0 0 := Stand.of_body Bd
  have e0 : s₁.heap = h0 := by rw [← hh, Bd.state]; rfl
  have N0 := Fr.nil n0
  show own_Ends p e below s (Q_rm_req Z a1 a2 h0 n0) ({ frames := 0, cells := 0, slots := 0, locals := 0 } : Room).cells ({ frames := 0, cells := 0, slots := 0, locals := 0 } : Room).slots s₁ (entryFrame m #[(.ref a1), (.ref a2)] 2)
  rw [ef_rm_req m a1 a2]
  show own_Ends _ _ _ _ _ _ _ s₁ (mkF m 0 #[.val (.ref a1), .val (.ref a2)] [])
  refine own_st (fun _ kq => XS.aloadN X0.here hx rfl (hb hby d3_0) rfl rfl kq) ?_
  show own_Ends _ _ _ _ _ _ _ s₁ (mkF m 1 #[.val (.ref a1), .val (.ref a2)] [(.ref a1)])
  refine own_st (fun _ kq => XS.ifnonnullYes X0.here hx rfl (pc0 := 1) (pc' := 13) rfl (hb hby d3_1) rfl (by decide) (by decide) kq) ?_
  show own_Ends _ _ _ _ _ _ _ s₁ (mkF m 13 #[.val (.ref a1), .val (.ref a2)] [])
  refine own_st (fun _ kq => XS.aloadN X0.here hx rfl (hb hby d3_13) rfl rfl kq) ?_
  show own_Ends _ _ _ _ _ _ _ s₁ (mkF m 14 #[.val (.ref a1), .val (.ref a2)] [(.ref a1)])
  refine own_retA X0 hx Bd.returns rfl rfl rfl (hb hby d3_14) hlk (by decide) (by decide) ?_
  show Q_rm_req Z a1 a2 h0 n0 _ s₁.heap _
  rw [e0]
  exact ⟨rfl, N0, rfl⟩
theorem d6_0 : decode jdk_40_method_36_code 0 = .ok (.getstatic 90, 3) := by decide +kernel
theorem d6_3 : decode jdk_40_method_36_code 3 = .ok (.areturn, 1) := by decide +kernel
theorem pn_2 : plainName "java/util/List" = true := by first | (simp [plainName, overriddenIn]; done) | decide +kernel
theorem ef_rm_lof (m : MethodId)  : entryFrame m #[] 0 = mkF m 0 #[] [] := by first | (simp [entryFrame, mkF, argsToLocals, Value.category]; done) | rfl
def Q_rm_lof (Z : State) (r0 : Addr) (rD : Addr) (r3 : Addr) (r5 : Addr) (r6 : Addr) (r4 : Addr) (r2 : Addr) (r1 : Addr) (rL : Addr) (h0 : Heap) (n0 : Nat) (v : Option Value) (h : Heap) (L : List Loc) : Prop := v = some (.ref rL) ∧ Fr n0 L ∧ h = h0
set_option maxRecDepth 65536 in
set_option maxHeartbeats 40000000 in
theorem rm_lof (l : Launch) (Z : State) (a0 : Array Value) (hw : ∀ d ∈ tables_1, d.before a0 Z = true) (ws : List Jvm.Cond) (r0 : Addr) (rD : Addr) (r3 : Addr) (r5 : Addr) (r6 : Addr) (r4 : Addr) (r2 : Addr) (r1 : Addr) (rL : Addr) (h0 : Heap) (n0 : Nat) (O0 : Old Z n0 h0) (G : own_W Z r0 rD r3 r5 r6 r4 r2 r1 rL) :
    MetFree l (⟨"java/util/List", "of", "()Ljava/util/List;"⟩ : MethodName) (head1 (Jvm.Cond.code (⟨"java/util/List", "of", "()Ljava/util/List;"⟩ : MethodName) jdk_40_method_36_code 0 (some (.object "java/util/List")) :: ws) ({ frames := 0, cells := 0, slots := 0, locals := 0 } : Room)) (fun a U => a = #[] ∧ Z.Warmed39 U.vm ∧ U.heap = h0) (fun _ _ _ _ _ => True) (fun _ U o U' => ∃ v L, o = .returned v ∧ Q_rm_lof Z r0 rD r3 r5 r6 r4 r2 r1 rL h0 n0 v U'.heap L ∧ FrameEnd U o U' L ({ frames := 0, cells := 0, slots := 0, locals := 0 } : Room).cells ({ frames := 0, cells := 0, slots := 0, locals := 0 } : Room).slots) := by
  refine MetFree.of_bodySF (plainFor_of_name pn_2) hisR ?_
  intro p e s m args below meth c s₁ Bd hml0 hP hK
  obtain ⟨rfl, hZ, hh⟩ := hP
  have hx := Bd.exec
  have hby := Bd.bytes
  have hml : c.maxLocals = 0 := hml0
  have hown : s.vm.findClass "java/util/List" = some m.cls := findClass_of_methodNamed Bd.named
  have hnm := (name_of_methodNamed Bd.named Bd.method).1
  have hlk := BodyLoose.notSynchronized Bd
  have X0 : Stand p l e ({ frames := 0, cells := 0, slots := 0, locals := 0 } : Room) s m #[] below meth c s₁ [] 0 0 := Stand.of_body Bd
  have e0 : s₁.heap = h0 := by rw [← hh, Bd.state]; rfl
  have N0 := Fr.nil n0
  show own_Ends p e below s (Q_rm_lof Z r0 rD r3 r5 r6 r4 r2 r1 rL h0 n0) ({ frames := 0, cells := 0, slots := 0, locals := 0 } : Room).cells ({ frames := 0, cells := 0, slots := 0, locals := 0 } : Room).slots s₁ (entryFrame m #[] 0)
  rw [ef_rm_lof m ]
  have G' := G
  obtain ⟨S_0, E_0, S_D, E_D, S_3, E_3, S_5, E_5, S_6, E_6, S_4, E_4, S_2, E_2, S_1, E_1, S_L⟩ := G'
  show own_Ends _ _ _ _ _ _ _ s₁ (mkF m 0 #[] [])
  obtain ⟨T1, X1, e1, st1⟩ := getS2 X0 hx hZ hown (host := "") (Or.inl (hw _ (List.mem_of_getElem? (i := 44) rfl))) Via.refl e0 (S_L.ext O0.2) (g := (mkF m 0 #[] [])) rfl (hb hby d6_0)
  refine own_st st1 ?_
  show own_Ends _ _ _ _ _ _ _ T1 (mkF m 3 #[] [(.ref rL)])
  refine own_retA X1 hx Bd.returns rfl rfl rfl (hb hby d6_3) hlk (by decide) (by decide) ?_
  show Q_rm_lof Z r0 rD r3 r5 r6 r4 r2 r1 rL h0 n0 _ T1.heap _
  rw [e1]
  exact ⟨rfl, N0, rfl⟩
theorem d4_0 : decode prog_22_method_1_code 0 = .ok (.aload_n 0, 1) := by decide +kernel
theorem d4_1 : decode prog_22_method_1_code 1 = .ok (.invokespecial 3, 3) := by decide +kernel
theorem d4_4 : decode prog_22_method_1_code 4 = .ok (.aload_n 0, 1) := by decide +kernel
theorem d4_5 : decode prog_22_method_1_code 5 = .ok (.getstatic 9, 3) := by decide +kernel
theorem d4_8 : decode prog_22_method_1_code 8 = .ok (.putfield 15, 3) := by decide +kernel
theorem d4_11 : decode prog_22_method_1_code 11 = .ok (.aload_n 0, 1) := by decide +kernel
theorem d4_12 : decode prog_22_method_1_code 12 = .ok (.iconst (-1), 1) := by decide +kernel
theorem d4_13 : decode prog_22_method_1_code 13 = .ok (.putfield 20, 3) := by decide +kernel
theorem d4_16 : decode prog_22_method_1_code 16 = .ok (.aload_n 0, 1) := by decide +kernel
theorem d4_17 : decode prog_22_method_1_code 17 = .ok (.invokestatic 24, 3) := by decide +kernel
theorem d4_20 : decode prog_22_method_1_code 20 = .ok (.putfield 30, 3) := by decide +kernel
theorem d4_23 : decode prog_22_method_1_code 23 = .ok (.return_, 1) := by decide +kernel
theorem pn_3 : plainName "com/example/clear_tx/cleartx/TransactionDefinition$Settings" = true := by first | (simp [plainName, overriddenIn]; done) | decide +kernel
theorem ef_rm_sinit (m : MethodId) (x0 : Addr) : entryFrame m #[(.ref x0)] 1 = mkF m 0 #[.val (.ref x0)] [] := by first | (simp [entryFrame, mkF, argsToLocals, Value.category]; done) | rfl
def Q_rm_sinit (Z : State) (a1 : Addr) (r0 : Addr) (rD : Addr) (r3 : Addr) (r5 : Addr) (r6 : Addr) (r4 : Addr) (r2 : Addr) (r1 : Addr) (rL : Addr) (h0 : Heap) (n0 : Nat) (v : Option Value) (h : Heap) (L : List Loc) : Prop := v = none ∧ Fr n0 L ∧ Keep h0 h [a1] ∧ Old Z n0 h ∧ Exa Z h a1 "com/example/clear_tx/cleartx/TransactionDefinition$Settings" ∧ Fld Z h a1 "com/example/clear_tx/cleartx/TransactionDefinition$Settings" "propagation" "Lcom/example/clear_tx/cleartx/Propagation;" .null ∧ Fld Z h a1 "com/example/clear_tx/cleartx/TransactionDefinition$Settings" "isolation" "Lcom/example/clear_tx/cleartx/Isolation;" (.ref rD) ∧ Fld Z h a1 "com/example/clear_tx/cleartx/TransactionDefinition$Settings" "readOnly" "Z" (.int (0 : Int32)) ∧ Fld Z h a1 "com/example/clear_tx/cleartx/TransactionDefinition$Settings" "timeout" "I" (.int (-1 : Int32)) ∧ Fld Z h a1 "com/example/clear_tx/cleartx/TransactionDefinition$Settings" "name" "Ljava/lang/String;" .null ∧ Fld Z h a1 "com/example/clear_tx/cleartx/TransactionDefinition$Settings" "rollbackRules" "Ljava/util/List;" (.ref rL) ∧ Fld Z h a1 "com/example/clear_tx/cleartx/TransactionDefinition$Settings" "declaredOn" "Ljava/lang/String;" .null
set_option maxRecDepth 65536 in
set_option maxHeartbeats 40000000 in
theorem rm_sinit (l : Launch) (Z : State) (a0 : Array Value) (hw : ∀ d ∈ tables_1, d.before a0 Z = true) (ws : List Jvm.Cond) (a1 : Addr) (r0 : Addr) (rD : Addr) (r3 : Addr) (r5 : Addr) (r6 : Addr) (r4 : Addr) (r2 : Addr) (r1 : Addr) (rL : Addr) (h0 : Heap) (n0 : Nat) (O0 : Old Z n0 h0) (E1 : Exa Z h0 a1 "com/example/clear_tx/cleartx/TransactionDefinition$Settings") (F_propagation : Fld Z h0 a1 "com/example/clear_tx/cleartx/TransactionDefinition$Settings" "propagation" "Lcom/example/clear_tx/cleartx/Propagation;" .null) (F_isolation : Fld Z h0 a1 "com/example/clear_tx/cleartx/TransactionDefinition$Settings" "isolation" "Lcom/example/clear_tx/cleartx/Isolation;" .null) (F_readOnly : Fld Z h0 a1 "com/example/clear_tx/cleartx/TransactionDefinition$Settings" "readOnly" "Z" (.int (0 : Int32))) (F_timeout : Fld Z h0 a1 "com/example/clear_tx/cleartx/TransactionDefinition$Settings" "timeout" "I" (.int (0 : Int32))) (F_name : Fld Z h0 a1 "com/example/clear_tx/cleartx/TransactionDefinition$Settings" "name" "Ljava/lang/String;" .null) (F_rollbackRules : Fld Z h0 a1 "com/example/clear_tx/cleartx/TransactionDefinition$Settings" "rollbackRules" "Ljava/util/List;" .null) (F_declaredOn : Fld Z h0 a1 "com/example/clear_tx/cleartx/TransactionDefinition$Settings" "declaredOn" "Ljava/lang/String;" .null) (g_a1 : n0 ≤ a1) (G : own_W Z r0 rD r3 r5 r6 r4 r2 r1 rL) :
    MetFree l (⟨"com/example/clear_tx/cleartx/TransactionDefinition$Settings", "<init>", "()V"⟩ : MethodName) (head1 (Jvm.Cond.code (⟨"com/example/clear_tx/cleartx/TransactionDefinition$Settings", "<init>", "()V"⟩ : MethodName) prog_22_method_1_code 1 none :: ws) ({ frames := 1, cells := 0, slots := 0, locals := 13 } : Room)) (fun a U => a = #[(.ref a1)] ∧ Z.Warmed39 U.vm ∧ U.heap = h0) (fun _ _ _ _ _ => True) (fun _ U o U' => ∃ v L, o = .returned v ∧ Q_rm_sinit Z a1 r0 rD r3 r5 r6 r4 r2 r1 rL h0 n0 v U'.heap L ∧ FrameEnd U o U' L ({ frames := 1, cells := 0, slots := 0, locals := 13 } : Room).cells ({ frames := 1, cells := 0, slots := 0, locals := 13 } : Room).slots) := by
  refine MetFree.of_bodySF (plainFor_of_name pn_3) hisR ?_
  intro p e s m args below meth c s₁ Bd hml0 hP hK
  obtain ⟨rfl, hZ, hh⟩ := hP
  have hx := Bd.exec
  have hby := Bd.bytes
  have hml : c.maxLocals = 1 := hml0
  have hown : s.vm.findClass "com/example/clear_tx/cleartx/TransactionDefinition$Settings" = some m.cls := findClass_of_methodNamed Bd.named
  have hnm := (name_of_methodNamed Bd.named Bd.method).1
  have hlk := BodyLoose.notSynchronized Bd
  have X0 : Stand p l e ({ frames := 1, cells := 0, slots := 0, locals := 13 } : Room) s m #[(.ref a1)] below meth c s₁ [] 0 0 := Stand.of_body Bd
  have e0 : s₁.heap = h0 := by rw [← hh, Bd.state]; rfl
  have N0 := Fr.nil n0
  show own_Ends p e below s (Q_rm_sinit Z a1 r0 rD r3 r5 r6 r4 r2 r1 rL h0 n0) ({ frames := 1, cells := 0, slots := 0, locals := 13 } : Room).cells ({ frames := 1, cells := 0, slots := 0, locals := 13 } : Room).slots s₁ (entryFrame m #[(.ref a1)] 1)
  rw [ef_rm_sinit m a1]
  have G' := G
  obtain ⟨S_0, E_0, S_D, E_D, S_3, E_3, S_5, E_5, S_6, E_6, S_4, E_4, S_2, E_2, S_1, E_1, S_L⟩ := G'
  have kk : Keep h0 h0 [a1] := Keep.refl h0 [a1]
  show own_Ends _ _ _ _ _ _ _ s₁ (mkF m 0 #[.val (.ref a1)] [])
  refine own_st (fun _ kq => XS.aloadN X0.here hx rfl (hb hby d4_0) rfl rfl kq) ?_
  show own_Ends _ _ _ _ _ _ _ s₁ (mkF m 1 #[.val (.ref a1)] [(.ref a1)])
  obtain ⟨T1, X1, e1, st1⟩ := initO X0 hx hZ hown (hw _ (List.mem_of_getElem? (i := 30) rfl)) (hw _ (List.mem_of_getElem? (i := 31) rfl)) (hw _ (List.mem_of_getElem? (i := 32) rfl)) e0 (g := (mkF m 1 #[.val (.ref a1)] [(.ref a1)])) rfl (by rw [hml]; rfl) rfl (hb hby d4_1) (by decide) (W := 0) (by show 2 * 0 + _ ≤ _; exact Nat.le_of_eq rfl) (by decide)
  refine own_st st1 ?_
  show own_Ends _ _ _ _ _ _ _ T1 (mkF m 4 #[.val (.ref a1)] [])
  refine own_st (fun _ kq => XS.aloadN X1.here hx rfl (hb hby d4_4) rfl rfl kq) ?_
  show own_Ends _ _ _ _ _ _ _ T1 (mkF m 5 #[.val (.ref a1)] [(.ref a1)])
  obtain ⟨T2, X2, e2, st2⟩ := getS2 X1 hx hZ hown (host := "") (Or.inl (hw _ (List.mem_of_getElem? (i := 33) rfl))) Via.refl e1 (S_D.ext O0.2) (g := (mkF m 5 #[.val (.ref a1)] [(.ref a1)])) rfl (hb hby d4_5)
  refine own_st st2 ?_
  show own_Ends _ _ _ _ _ _ _ T2 (mkF m 8 #[.val (.ref a1)] [(.ref rD), (.ref a1)])
  obtain ⟨T3, h3, X3, e3, W3, st3⟩ := putF X2 hx hZ hown (host := "") (Or.inl (hw _ (List.mem_of_getElem? (i := 36) rfl))) Via.refl e2 F_isolation E1 (Or.inl (hw _ (List.mem_of_getElem? (i := 37) rfl))) (hw _ (List.mem_of_getElem? (i := 25) rfl)) (ty := (.object "com/example/clear_tx/cleartx/Isolation")) (by decide) rfl rfl (g := (mkF m 8 #[.val (.ref a1)] [(.ref rD), (.ref a1)])) rfl rfl (hb hby d4_8)
  have Fw3 := F_isolation.same W3
  have N3 := Fr.snoc X3 N0 g_a1
  have O3 := O0.wr W3 g_a1
  refine own_st st3 ?_
  show own_Ends _ _ _ _ _ _ _ T3 (mkF m 11 #[.val (.ref a1)] [])
  refine own_st (fun _ kq => XS.aloadN X3.here hx rfl (hb hby d4_11) rfl rfl kq) ?_
  show own_Ends _ _ _ _ _ _ _ T3 (mkF m 12 #[.val (.ref a1)] [(.ref a1)])
  refine own_st (fun _ kq => XS.iconst X3.here hx rfl (hb hby d4_12) kq) ?_
  show own_Ends _ _ _ _ _ _ _ T3 (mkF m 13 #[.val (.ref a1)] [(.int (-1 : Int32)), (.ref a1)])
  obtain ⟨T4, h4, X4, e4, W4, st4⟩ := putF X3 hx hZ hown (host := "") (Or.inl (hw _ (List.mem_of_getElem? (i := 38) rfl))) Via.refl e3 (F_timeout.other W3 (Or.inr (slot_ne (Or.inl (hw _ (List.mem_of_getElem? (i := 39) rfl))) (Or.inl (hw _ (List.mem_of_getElem? (i := 37) rfl))) (by decide) (t := .int) (t' := (.object "com/example/clear_tx/cleartx/Isolation")) (by decide) (by decide)))) (E1.wr W3) (Or.inl (hw _ (List.mem_of_getElem? (i := 39) rfl))) (hw _ (List.mem_of_getElem? (i := 25) rfl)) (ty := .int) (by decide) rfl rfl (g := (mkF m 13 #[.val (.ref a1)] [(.int (-1 : Int32)), (.ref a1)])) rfl rfl (hb hby d4_13)
  have Fw4 := (F_timeout.other W3 (Or.inr (slot_ne (Or.inl (hw _ (List.mem_of_getElem? (i := 39) rfl))) (Or.inl (hw _ (List.mem_of_getElem? (i := 37) rfl))) (by decide) (t := .int) (t' := (.object "com/example/clear_tx/cleartx/Isolation")) (by decide) (by decide)))).same W4
  have N4 := Fr.snoc X4 N3 g_a1
  have O4 := O3.wr W4 g_a1
  refine own_st st4 ?_
  show own_Ends _ _ _ _ _ _ _ T4 (mkF m 16 #[.val (.ref a1)] [])
  refine own_st (fun _ kq => XS.aloadN X4.here hx rfl (hb hby d4_16) rfl rfl kq) ?_
  show own_Ends _ _ _ _ _ _ _ T4 (mkF m 17 #[.val (.ref a1)] [(.ref a1)])
  obtain ⟨_, _, ⟨T5, L5, k5, n5⟩, -, X5, ⟨Lc5, hQ5, l5, y5, z5⟩, st5⟩ := Jvm.LawKit.callS X4 hx (y := (⟨"java/util/List", "of", "()Ljava/util/List;"⟩ : MethodName)) hown (mvT hZ (hw _ (List.mem_of_getElem? (i := 40) rfl))) (mvT hZ (hw _ (List.mem_of_getElem? (i := 41) rfl))) (mvT hZ (hw _ (List.mem_of_getElem? (i := 42) rfl))) (mvT hZ (hw _ (List.mem_of_getElem? (i := 43) rfl))) (by decide) (backOf (W := 1) (rm_lof l Z a0 hw [] r0 rD r3 r5 r6 r4 r2 r1 rL h4 n0 O4 G) hZ (hw _ (List.mem_of_getElem? (i := 43) rfl)) (hw _ (List.mem_of_getElem? (i := 42) rfl)) (by decide) (by decide)) (g := (mkF m 17 #[.val (.ref a1)] [(.ref a1)])) rfl (by rw [hml]; rfl) (argsL := []) (rest := [(.ref a1)]) (lenOf pd_4 rfl) rfl (by show 2 * 0 + _ ≤ _; exact Nat.le_of_eq rfl) (hb hby d4_17) (fun _ _ => ⟨rfl, e4, (by decide : 0 + 0 ≤ _), (by decide : 0 + 0 ≤ _)⟩)
  dsimp only [Pt.U, Pt.locs, Pt.cells, Pt.slots] at X5 l5 y5 z5 st5 hQ5
  subst l5 y5 z5
  obtain ⟨rfl, N5q, e5⟩ := hQ5
  have N5 := Fr.app N4 N5q
  refine own_st st5 ?_
  show own_Ends _ _ _ _ _ _ _ T5 (mkF m 20 #[.val (.ref a1)] [(.ref rL), (.ref a1)])
  obtain ⟨T6, h6, X6, e6, W6, st6⟩ := putF X5 hx hZ hown (host := "") (Or.inl (hw _ (List.mem_of_getElem? (i := 46) rfl))) Via.refl e5 ((F_rollbackRules.other W3 (Or.inr (slot_ne (Or.inl (hw _ (List.mem_of_getElem? (i := 47) rfl))) (Or.inl (hw _ (List.mem_of_getElem? (i := 37) rfl))) (by decide) (t := (.object "java/util/List")) (t' := (.object "com/example/clear_tx/cleartx/Isolation")) (by decide) (by decide)))).other W4 (Or.inr (slot_ne (Or.inl (hw _ (List.mem_of_getElem? (i := 47) rfl))) (Or.inl (hw _ (List.mem_of_getElem? (i := 39) rfl))) (by decide) (t := (.object "java/util/List")) (t' := .int) (by decide) (by decide)))) ((E1.wr W3).wr W4) (Or.inl (hw _ (List.mem_of_getElem? (i := 47) rfl))) (hw _ (List.mem_of_getElem? (i := 25) rfl)) (ty := (.object "java/util/List")) (by decide) rfl rfl (g := (mkF m 20 #[.val (.ref a1)] [(.ref rL), (.ref a1)])) rfl rfl (hb hby d4_20)
  have Fw6 := ((F_rollbackRules.other W3 (Or.inr (slot_ne (Or.inl (hw _ (List.mem_of_getElem? (i := 47) rfl))) (Or.inl (hw _ (List.mem_of_getElem? (i := 37) rfl))) (by decide) (t := (.object "java/util/List")) (t' := (.object "com/example/clear_tx/cleartx/Isolation")) (by decide) (by decide)))).other W4 (Or.inr (slot_ne (Or.inl (hw _ (List.mem_of_getElem? (i := 47) rfl))) (Or.inl (hw _ (List.mem_of_getElem? (i := 39) rfl))) (by decide) (t := (.object "java/util/List")) (t' := .int) (by decide) (by decide)))).same W6
  have N6 := Fr.snoc X6 N5 g_a1
  have O6 := O4.wr W6 g_a1
  refine own_st st6 ?_
  show own_Ends _ _ _ _ _ _ _ T6 (mkF m 23 #[.val (.ref a1)] [])
  refine own_retV X6 hx Bd.returns (hb hby d4_23) hlk (by decide) (by decide) ?_
  show Q_rm_sinit Z a1 r0 rD r3 r5 r6 r4 r2 r1 rL h0 n0 _ T6.heap _
  rw [e6]
  exact ⟨rfl, N6, (((kk.wr W3 (Or.inl (List.mem_of_getElem? (i := 0) rfl))).wr W4 (Or.inl (List.mem_of_getElem? (i := 0) rfl))).wr W6 (Or.inl (List.mem_of_getElem? (i := 0) rfl))), O6, (((E1.wr W3).wr W4).wr W6), (((F_propagation.other W3 (Or.inr (slot_ne (Or.inl (hw _ (List.mem_of_getElem? (i := 49) rfl))) (Or.inl (hw _ (List.mem_of_getElem? (i := 37) rfl))) (by decide) (t := (.object "com/example/clear_tx/cleartx/Propagation")) (t' := (.object "com/example/clear_tx/cleartx/Isolation")) (by decide) (by decide)))).other W4 (Or.inr (slot_ne (Or.inl (hw _ (List.mem_of_getElem? (i := 49) rfl))) (Or.inl (hw _ (List.mem_of_getElem? (i := 39) rfl))) (by decide) (t := (.object "com/example/clear_tx/cleartx/Propagation")) (t' := .int) (by decide) (by decide)))).other W6 (Or.inr (slot_ne (Or.inl (hw _ (List.mem_of_getElem? (i := 49) rfl))) (Or.inl (hw _ (List.mem_of_getElem? (i := 47) rfl))) (by decide) (t := (.object "com/example/clear_tx/cleartx/Propagation")) (t' := (.object "java/util/List")) (by decide) (by decide)))), ((Fw3.other W4 (Or.inr (slot_ne (Or.inl (hw _ (List.mem_of_getElem? (i := 37) rfl))) (Or.inl (hw _ (List.mem_of_getElem? (i := 39) rfl))) (by decide) (t := (.object "com/example/clear_tx/cleartx/Isolation")) (t' := .int) (by decide) (by decide)))).other W6 (Or.inr (slot_ne (Or.inl (hw _ (List.mem_of_getElem? (i := 37) rfl))) (Or.inl (hw _ (List.mem_of_getElem? (i := 47) rfl))) (by decide) (t := (.object "com/example/clear_tx/cleartx/Isolation")) (t' := (.object "java/util/List")) (by decide) (by decide)))), (((F_readOnly.other W3 (Or.inr (slot_ne (Or.inl (hw _ (List.mem_of_getElem? (i := 76) rfl))) (Or.inl (hw _ (List.mem_of_getElem? (i := 37) rfl))) (by decide) (t := .boolean) (t' := (.object "com/example/clear_tx/cleartx/Isolation")) (by decide) (by decide)))).other W4 (Or.inr (slot_ne (Or.inl (hw _ (List.mem_of_getElem? (i := 76) rfl))) (Or.inl (hw _ (List.mem_of_getElem? (i := 39) rfl))) (by decide) (t := .boolean) (t' := .int) (by decide) (by decide)))).other W6 (Or.inr (slot_ne (Or.inl (hw _ (List.mem_of_getElem? (i := 76) rfl))) (Or.inl (hw _ (List.mem_of_getElem? (i := 47) rfl))) (by decide) (t := .boolean) (t' := (.object "java/util/List")) (by decide) (by decide)))), (Fw4.other W6 (Or.inr (slot_ne (Or.inl (hw _ (List.mem_of_getElem? (i := 39) rfl))) (Or.inl (hw _ (List.mem_of_getElem? (i := 47) rfl))) (by decide) (t := .int) (t' := (.object "java/util/List")) (by decide) (by decide)))), (((F_name.other W3 (Or.inr (slot_ne (Or.inl (hw _ (List.mem_of_getElem? (i := 89) rfl))) (Or.inl (hw _ (List.mem_of_getElem? (i := 37) rfl))) (by decide) (t := (.object "java/lang/String")) (t' := (.object "com/example/clear_tx/cleartx/Isolation")) (by decide) (by decide)))).other W4 (Or.inr (slot_ne (Or.inl (hw _ (List.mem_of_getElem? (i := 89) rfl))) (Or.inl (hw _ (List.mem_of_getElem? (i := 39) rfl))) (by decide) (t := (.object "java/lang/String")) (t' := .int) (by decide) (by decide)))).other W6 (Or.inr (slot_ne (Or.inl (hw _ (List.mem_of_getElem? (i := 89) rfl))) (Or.inl (hw _ (List.mem_of_getElem? (i := 47) rfl))) (by decide) (t := (.object "java/lang/String")) (t' := (.object "java/util/List")) (by decide) (by decide)))), Fw6, (((F_declaredOn.other W3 (Or.inr (slot_ne (Or.inl (hw _ (List.mem_of_getElem? (i := 96) rfl))) (Or.inl (hw _ (List.mem_of_getElem? (i := 37) rfl))) (by decide) (t := (.object "java/lang/String")) (t' := (.object "com/example/clear_tx/cleartx/Isolation")) (by decide) (by decide)))).other W4 (Or.inr (slot_ne (Or.inl (hw _ (List.mem_of_getElem? (i := 96) rfl))) (Or.inl (hw _ (List.mem_of_getElem? (i := 39) rfl))) (by decide) (t := (.object "java/lang/String")) (t' := .int) (by decide) (by decide)))).other W6 (Or.inr (slot_ne (Or.inl (hw _ (List.mem_of_getElem? (i := 96) rfl))) (Or.inl (hw _ (List.mem_of_getElem? (i := 47) rfl))) (by decide) (t := (.object "java/lang/String")) (t' := (.object "java/util/List")) (by decide) (by decide))))⟩
theorem d7_0 : decode prog_21_method_1_code 0 = .ok (.aload_n 0, 1) := by decide +kernel
theorem d7_1 : decode prog_21_method_1_code 1 = .ok (.invokespecial 1, 3) := by decide +kernel
theorem d7_4 : decode prog_21_method_1_code 4 = .ok (.aload_n 0, 1) := by decide +kernel
theorem d7_5 : decode prog_21_method_1_code 5 = .ok (.aload_n 1, 1) := by decide +kernel
theorem d7_6 : decode prog_21_method_1_code 6 = .ok (.putfield 7, 3) := by decide +kernel
theorem d7_9 : decode prog_21_method_1_code 9 = .ok (.return_, 1) := by decide +kernel
theorem pn_4 : plainName "com/example/clear_tx/cleartx/TransactionDefinition" = true := by first | (simp [plainName, overriddenIn]; done) | decide +kernel
theorem ef_rm_tinit (m : MethodId) (x0 : Addr) (x1 : Addr) : entryFrame m #[(.ref x0), (.ref x1)] 2 = mkF m 0 #[.val (.ref x0), .val (.ref x1)] [] := by first | (simp [entryFrame, mkF, argsToLocals, Value.category]; done) | rfl
def Q_rm_tinit (Z : State) (a1 : Addr) (a2 : Addr) (h0 : Heap) (n0 : Nat) (v : Option Value) (h : Heap) (L : List Loc) : Prop := v = none ∧ Fr n0 L ∧ Keep h0 h [a1] ∧ Old Z n0 h ∧ Exa Z h a1 "com/example/clear_tx/cleartx/TransactionDefinition" ∧ Fld Z h a1 "com/example/clear_tx/cleartx/TransactionDefinition" "settings" "Lcom/example/clear_tx/cleartx/TransactionDefinition$Settings;" (.ref a2)
set_option maxRecDepth 65536 in
set_option maxHeartbeats 40000000 in
theorem rm_tinit (l : Launch) (Z : State) (a0 : Array Value) (hw : ∀ d ∈ tables_1, d.before a0 Z = true) (ws : List Jvm.Cond) (a1 : Addr) (a2 : Addr) (h0 : Heap) (n0 : Nat) (O0 : Old Z n0 h0) (E1 : Exa Z h0 a1 "com/example/clear_tx/cleartx/TransactionDefinition") (F1 : Fld Z h0 a1 "com/example/clear_tx/cleartx/TransactionDefinition" "settings" "Lcom/example/clear_tx/cleartx/TransactionDefinition$Settings;" .null) (g_a1 : n0 ≤ a1) :
    MetFree l (⟨"com/example/clear_tx/cleartx/TransactionDefinition", "<init>", "(Lcom/example/clear_tx/cleartx/TransactionDefinition$Settings;)V"⟩ : MethodName) (head1 (Jvm.Cond.code (⟨"com/example/clear_tx/cleartx/TransactionDefinition", "<init>", "(Lcom/example/clear_tx/cleartx/TransactionDefinition$Settings;)V"⟩ : MethodName) prog_21_method_1_code 2 none :: ws) ({ frames := 1, cells := 0, slots := 0, locals := 12 } : Room)) (fun a U => a = #[(.ref a1), (.ref a2)] ∧ Z.Warmed39 U.vm ∧ U.heap = h0) (fun _ _ _ _ _ => True) (fun _ U o U' => ∃ v L, o = .returned v ∧ Q_rm_tinit Z a1 a2 h0 n0 v U'.heap L ∧ FrameEnd U o U' L ({ frames := 1, cells := 0, slots := 0, locals := 12 } : Room).cells ({ frames := 1, cells := 0, slots := 0, locals := 12 } : Room).slots) := by
  refine MetFree.of_bodySF (plainFor_of_name pn_4) hisR ?_
  intro p e s m args below meth c s₁ Bd hml0 hP hK
  obtain ⟨rfl, hZ, hh⟩ := hP
  have hx := Bd.exec
  have hby := Bd.bytes
  have hml : c.maxLocals = 2 := hml0
  have hown : s.vm.findClass "com/example/clear_tx/cleartx/TransactionDefinition" = some m.cls := findClass_of_methodNamed Bd.named
  have hnm := (name_of_methodNamed Bd.named Bd.method).1
  have hlk := BodyLoose.notSynchronized Bd
  have X0 : Stand p l e ({ frames := 1, cells := 0, slots := 0, locals := 12 } : Room) s m #[(.ref a1), (.ref a2)] below meth c s₁ [] 0 0 := Stand.of_body Bd
  have e0 : s₁.heap = h0 := by rw [← hh, Bd.state]; rfl
  have N0 := Fr.nil n0
  show own_Ends p e below s (Q_rm_tinit Z a1 a2 h0 n0) ({ frames := 1, cells := 0, slots := 0, locals := 12 } : Room).cells ({ frames := 1, cells := 0, slots := 0, locals := 12 } : Room).slots s₁ (entryFrame m #[(.ref a1), (.ref a2)] 2)
  rw [ef_rm_tinit m a1 a2]
  have kk : Keep h0 h0 [a1] := Keep.refl h0 [a1]
  show own_Ends _ _ _ _ _ _ _ s₁ (mkF m 0 #[.val (.ref a1), .val (.ref a2)] [])
  refine own_st (fun _ kq => XS.aloadN X0.here hx rfl (hb hby d7_0) rfl rfl kq) ?_
  show own_Ends _ _ _ _ _ _ _ s₁ (mkF m 1 #[.val (.ref a1), .val (.ref a2)] [(.ref a1)])
  obtain ⟨T1, X1, e1, st1⟩ := initO X0 hx hZ hown (hw _ (List.mem_of_getElem? (i := 55) rfl)) (hw _ (List.mem_of_getElem? (i := 31) rfl)) (hw _ (List.mem_of_getElem? (i := 32) rfl)) e0 (g := (mkF m 1 #[.val (.ref a1), .val (.ref a2)] [(.ref a1)])) rfl (by rw [hml]; rfl) rfl (hb hby d7_1) (by decide) (W := 0) (by show 2 * 0 + _ ≤ _; exact Nat.le_of_eq rfl) (by decide)
  refine own_st st1 ?_
  show own_Ends _ _ _ _ _ _ _ T1 (mkF m 4 #[.val (.ref a1), .val (.ref a2)] [])
  refine own_st (fun _ kq => XS.aloadN X1.here hx rfl (hb hby d7_4) rfl rfl kq) ?_
  show own_Ends _ _ _ _ _ _ _ T1 (mkF m 5 #[.val (.ref a1), .val (.ref a2)] [(.ref a1)])
  refine own_st (fun _ kq => XS.aloadN X1.here hx rfl (hb hby d7_5) rfl rfl kq) ?_
  show own_Ends _ _ _ _ _ _ _ T1 (mkF m 6 #[.val (.ref a1), .val (.ref a2)] [(.ref a2), (.ref a1)])
  obtain ⟨T2, h2, X2, e2, W2, st2⟩ := putF X1 hx hZ hown (host := "") (Or.inl (hw _ (List.mem_of_getElem? (i := 56) rfl))) Via.refl e1 F1 E1 (Or.inr ⟨(hw _ (List.mem_of_getElem? (i := 57) rfl)), rfl, hnm⟩) (hw _ (List.mem_of_getElem? (i := 51) rfl)) (ty := (.object "com/example/clear_tx/cleartx/TransactionDefinition$Settings")) (by decide) rfl rfl (g := (mkF m 6 #[.val (.ref a1), .val (.ref a2)] [(.ref a2), (.ref a1)])) rfl rfl (hb hby d7_6)
  have Fw2 := F1.same W2
  have N2 := Fr.snoc X2 N0 g_a1
  have O2 := O0.wr W2 g_a1
  refine own_st st2 ?_
  show own_Ends _ _ _ _ _ _ _ T2 (mkF m 9 #[.val (.ref a1), .val (.ref a2)] [])
  refine own_retV X2 hx Bd.returns (hb hby d7_9) hlk (by decide) (by decide) ?_
  show Q_rm_tinit Z a1 a2 h0 n0 _ T2.heap _
  rw [e2]
  exact ⟨rfl, N2, (kk.wr W2 (Or.inl (List.mem_of_getElem? (i := 0) rfl))), O2, (E1.wr W2), Fw2⟩
theorem d2_0 : decode prog_21_method_2_code 0 = .ok (.aload_n 0, 1) := by decide +kernel
theorem d2_1 : decode prog_21_method_2_code 1 = .ok (.ldc 13, 2) := by decide +kernel
theorem d2_3 : decode prog_21_method_2_code 3 = .ok (.invokestatic 15, 3) := by decide +kernel
theorem d2_6 : decode prog_21_method_2_code 6 = .ok (.pop, 1) := by decide +kernel
theorem d2_7 : decode prog_21_method_2_code 7 = .ok (.new 21, 3) := by decide +kernel
theorem d2_10 : decode prog_21_method_2_code 10 = .ok (.dup, 1) := by decide +kernel
theorem d2_11 : decode prog_21_method_2_code 11 = .ok (.invokespecial 23, 3) := by decide +kernel
theorem d2_14 : decode prog_21_method_2_code 14 = .ok (.astore_n 1, 1) := by decide +kernel
theorem d2_15 : decode prog_21_method_2_code 15 = .ok (.aload_n 1, 1) := by decide +kernel
theorem d2_16 : decode prog_21_method_2_code 16 = .ok (.aload_n 0, 1) := by decide +kernel
theorem d2_17 : decode prog_21_method_2_code 17 = .ok (.putfield 24, 3) := by decide +kernel
theorem d2_20 : decode prog_21_method_2_code 20 = .ok (.new 8, 3) := by decide +kernel
theorem d2_23 : decode prog_21_method_2_code 23 = .ok (.dup, 1) := by decide +kernel
theorem d2_24 : decode prog_21_method_2_code 24 = .ok (.aload_n 1, 1) := by decide +kernel
theorem d2_25 : decode prog_21_method_2_code 25 = .ok (.invokespecial 28, 3) := by decide +kernel
theorem d2_28 : decode prog_21_method_2_code 28 = .ok (.areturn, 1) := by decide +kernel
theorem ef_rm_of (m : MethodId) (x0 : Addr) : entryFrame m #[(.ref x0)] 2 = mkF m 0 #[.val (.ref x0), .unset] [] := by first | (simp [entryFrame, mkF, argsToLocals, Value.category]; done) | rfl
def Q_rm_of (Z : State) (a1 : Addr) (r0 : Addr) (rD : Addr) (r3 : Addr) (r5 : Addr) (r6 : Addr) (r4 : Addr) (r2 : Addr) (r1 : Addr) (rL : Addr) (h0 : Heap) (n0 : Nat) (v : Option Value) (h : Heap) (L : List Loc) : Prop := ∃ b c, v = some (.ref b) ∧ Fr n0 L ∧ Keep h0 h [] ∧ Old Z n0 h ∧ Exa Z h b "com/example/clear_tx/cleartx/TransactionDefinition" ∧ Fld Z h b "com/example/clear_tx/cleartx/TransactionDefinition" "settings" "Lcom/example/clear_tx/cleartx/TransactionDefinition$Settings;" (.ref c) ∧ Fld Z h c "com/example/clear_tx/cleartx/TransactionDefinition$Settings" "propagation" "Lcom/example/clear_tx/cleartx/Propagation;" (.ref a1) ∧ Fld Z h c "com/example/clear_tx/cleartx/TransactionDefinition$Settings" "isolation" "Lcom/example/clear_tx/cleartx/Isolation;" (.ref rD) ∧ Fld Z h c "com/example/clear_tx/cleartx/TransactionDefinition$Settings" "readOnly" "Z" (.int (0 : Int32)) ∧ Fld Z h c "com/example/clear_tx/cleartx/TransactionDefinition$Settings" "timeout" "I" (.int (-1 : Int32)) ∧ Fld Z h c "com/example/clear_tx/cleartx/TransactionDefinition$Settings" "name" "Ljava/lang/String;" .null ∧ Fld Z h c "com/example/clear_tx/cleartx/TransactionDefinition$Settings" "rollbackRules" "Ljava/util/List;" (.ref rL) ∧ Fld Z h c "com/example/clear_tx/cleartx/TransactionDefinition$Settings" "declaredOn" "Ljava/lang/String;" .null
set_option maxRecDepth 65536 in
set_option maxHeartbeats 40000000 in
theorem rm_of (l : Launch) (Z : State) (a0 : Array Value) (hw : ∀ d ∈ tables_1, d.before a0 Z = true) (ws : List Jvm.Cond) (a1 : Addr) (r0 : Addr) (rD : Addr) (r3 : Addr) (r5 : Addr) (r6 : Addr) (r4 : Addr) (r2 : Addr) (r1 : Addr) (rL : Addr) (h0 : Heap) (n0 : Nat) (O0 : Old Z n0 h0) (G : own_W Z r0 rD r3 r5 r6 r4 r2 r1 rL) :
    MetFree l (⟨"com/example/clear_tx/cleartx/TransactionDefinition", "of", "(Lcom/example/clear_tx/cleartx/Propagation;)Lcom/example/clear_tx/cleartx/TransactionDefinition;"⟩ : MethodName) (head1 (Jvm.Cond.code (⟨"com/example/clear_tx/cleartx/TransactionDefinition", "of", "(Lcom/example/clear_tx/cleartx/Propagation;)Lcom/example/clear_tx/cleartx/TransactionDefinition;"⟩ : MethodName) prog_21_method_2_code 2 (some (.object "com/example/clear_tx/cleartx/TransactionDefinition")) :: ws) ({ frames := 2, cells := 4, slots := 128, locals := 30 } : Room)) (fun a U => a = #[(.ref a1)] ∧ Z.Warmed39 U.vm ∧ U.heap = h0) (fun _ _ _ _ _ => True) (fun _ U o U' => ∃ v L, o = .returned v ∧ Q_rm_of Z a1 r0 rD r3 r5 r6 r4 r2 r1 rL h0 n0 v U'.heap L ∧ ReturnedEndW U o U' L ({ frames := 2, cells := 4, slots := 128, locals := 30 } : Room).cells ({ frames := 2, cells := 4, slots := 128, locals := 30 } : Room).slots) := by
  refine MetFree.of_bodySF (plainFor_of_name pn_4) hisR ?_
  intro p e s m args below meth c s₁ Bd hml0 hP hK
  obtain ⟨rfl, hZ, hh⟩ := hP
  have hx := Bd.exec
  have hby := Bd.bytes
  have hml : c.maxLocals = 2 := hml0
  have hown : s.vm.findClass "com/example/clear_tx/cleartx/TransactionDefinition" = some m.cls := findClass_of_methodNamed Bd.named
  have hnm := (name_of_methodNamed Bd.named Bd.method).1
  have hlk := BodyLoose.notSynchronized Bd
  have X0 : Stand p l e ({ frames := 2, cells := 4, slots := 128, locals := 30 } : Room) s m #[(.ref a1)] below meth c s₁ [] 0 0 := Stand.of_body Bd
  have e0 : s₁.heap = h0 := by rw [← hh, Bd.state]; rfl
  have N0 := Fr.nil n0
  show own_EndsW p e below s (Q_rm_of Z a1 r0 rD r3 r5 r6 r4 r2 r1 rL h0 n0) ({ frames := 2, cells := 4, slots := 128, locals := 30 } : Room).cells ({ frames := 2, cells := 4, slots := 128, locals := 30 } : Room).slots s₁ (entryFrame m #[(.ref a1)] 2)
  rw [ef_rm_of m a1]
  have X0 : Stand p l e ({ frames := 2, cells := 4, slots := 128, locals := 30 } : Room) (s.setVm s.vm) m #[(.ref a1)] below meth c s₁ [] 0 0 := X0
  have hS := (State.WarmedH.refl s).since 0
  have hk : 0 ≤ h0.size := Nat.zero_le _
  have hZ : Z.Warmed39 (s.setVm s.vm).vm := hZ
  have hown : (s.setVm s.vm).vm.findClass "com/example/clear_tx/cleartx/TransactionDefinition" = some m.cls := hown
  have G' := G
  obtain ⟨S_0, E_0, S_D, E_D, S_3, E_3, S_5, E_5, S_6, E_6, S_4, E_4, S_2, E_2, S_1, E_1, S_L⟩ := G'
  show own_EndsW _ _ _ _ _ _ _ s₁ (mkF m 0 #[.val (.ref a1), .unset] [])
  refine own_stW (fun _ kq => XS.aloadN X0.here hx rfl (hb hby d2_0) rfl rfl kq) ?_
  show own_EndsW _ _ _ _ _ _ _ s₁ (mkF m 1 #[.val (.ref a1), .unset] [(.ref a1)])
  obtain ⟨sl1, T1, h1, kk1, X1, e1, E1, hS, hk', hZ, hown, st1⟩ := ldcS X0 hx hZ hown (hw _ (List.mem_of_getElem? (i := 12) rfl)) (own_wS hw) e0 hS hk (g := (mkF m 1 #[.val (.ref a1), .unset] [(.ref a1)])) rfl (hb hby d2_1) (n := 116) (by decide +kernel) (by decide) (by decide) (by decide)
  have O1 := O0.ext E1
  have hk := Nat.le_trans hk E1.1
  have hk := hk'
  refine own_stW st1 ?_
  show own_EndsW _ _ _ _ _ _ _ T1 (mkF m 3 #[.val (.ref a1), .unset] [(.ref sl1), (.ref a1)])
  obtain ⟨_, _, ⟨T2, L2, k2, n2⟩, -, X2, ⟨Lc2, hQ2, l2, y2, z2⟩, st2⟩ := Jvm.LawKit.callS X1 hx (y := (⟨"java/util/Objects", "requireNonNull", "(Ljava/lang/Object;Ljava/lang/String;)Ljava/lang/Object;"⟩ : MethodName)) hown (mvT hZ (hw _ (List.mem_of_getElem? (i := 20) rfl))) (mvT hZ (hw _ (List.mem_of_getElem? (i := 21) rfl))) (mvT hZ (hw _ (List.mem_of_getElem? (i := 22) rfl))) (mvT hZ (hw _ (List.mem_of_getElem? (i := 23) rfl))) (by decide) (backOf (W := 0) (rm_req l Z a0 hw [] a1 sl1 h1 n0 O1) hZ (hw _ (List.mem_of_getElem? (i := 23) rfl)) (hw _ (List.mem_of_getElem? (i := 22) rfl)) (by decide) (by decide)) (g := (mkF m 3 #[.val (.ref a1), .unset] [(.ref sl1), (.ref a1)])) rfl (by rw [hml]; rfl) (argsL := [(.ref a1), (.ref sl1)]) (rest := []) (lenOf pd_2 rfl) rfl (by show 2 * 0 + _ ≤ _; exact Nat.le_of_eq rfl) (hb hby d2_3) (fun _ _ => ⟨rfl, e1, (by decide : 2 + 0 ≤ _), (by decide : 120 + 0 ≤ _)⟩)
  dsimp only [Pt.U, Pt.locs, Pt.cells, Pt.slots] at X2 l2 y2 z2 st2 hQ2
  subst l2 y2 z2
  obtain ⟨rfl, N2q, e2⟩ := hQ2
  have N2 := Fr.app N0 N2q
  refine own_stW st2 ?_
  show own_EndsW _ _ _ _ _ _ _ T2 (mkF m 6 #[.val (.ref a1), .unset] [(.ref a1)])
  refine own_stW (fun _ kq => XS.pop X2.here hx rfl (hb hby d2_6) rfl rfl kq) ?_
  show own_EndsW _ _ _ _ _ _ _ T2 (mkF m 7 #[.val (.ref a1), .unset] [])
  obtain ⟨T3, h3, X3, e3, E3, A3, D3, -, st3⟩ := newO X2 hx hZ hown (hw _ (List.mem_of_getElem? (i := 24) rfl)) (hw _ (List.mem_of_getElem? (i := 25) rfl)) (hw _ (List.mem_of_getElem? (i := 26) rfl)) e2 (g := (mkF m 7 #[.val (.ref a1), .unset] [])) rfl (hb hby d2_7) (by decide) (by decide)
  obtain ⟨b3, g3⟩ : ∃ z, z = h1.size := ⟨_, rfl⟩
  rw [← g3] at A3 D3 st3
  have g_b3 : n0 ≤ b3 := Nat.le_trans (O1.1 ▸ O1.2.1) (Nat.le_of_eq g3.symm)
  have sz_b3 : h0.size ≤ b3 := Nat.le_trans ((Keep.refl h0 []).ext E1).1 (Nat.le_of_eq g3.symm)
  have O3 := O1.ext E3
  have hk := Nat.le_trans hk E3.1
  refine own_stW st3 ?_
  have F3_isolation : Fld Z h3 b3 "com/example/clear_tx/cleartx/TransactionDefinition$Settings" "isolation" "Lcom/example/clear_tx/cleartx/Isolation;" .null := D3 (Or.inl (hw _ (List.mem_of_getElem? (i := 37) rfl))) (ty := (.object "com/example/clear_tx/cleartx/Isolation")) (by decide)
  have F3_timeout : Fld Z h3 b3 "com/example/clear_tx/cleartx/TransactionDefinition$Settings" "timeout" "I" (.int (0 : Int32)) := D3 (Or.inl (hw _ (List.mem_of_getElem? (i := 39) rfl))) (ty := .int) (by decide)
  have F3_rollbackRules : Fld Z h3 b3 "com/example/clear_tx/cleartx/TransactionDefinition$Settings" "rollbackRules" "Ljava/util/List;" .null := D3 (Or.inl (hw _ (List.mem_of_getElem? (i := 47) rfl))) (ty := (.object "java/util/List")) (by decide)
  have F3_propagation : Fld Z h3 b3 "com/example/clear_tx/cleartx/TransactionDefinition$Settings" "propagation" "Lcom/example/clear_tx/cleartx/Propagation;" .null := D3 (Or.inl (hw _ (List.mem_of_getElem? (i := 49) rfl))) (ty := (.object "com/example/clear_tx/cleartx/Propagation")) (by decide)
  have F3_readOnly : Fld Z h3 b3 "com/example/clear_tx/cleartx/TransactionDefinition$Settings" "readOnly" "Z" (.int (0 : Int32)) := D3 (Or.inl (hw _ (List.mem_of_getElem? (i := 76) rfl))) (ty := .boolean) (by decide)
  have F3_name : Fld Z h3 b3 "com/example/clear_tx/cleartx/TransactionDefinition$Settings" "name" "Ljava/lang/String;" .null := D3 (Or.inl (hw _ (List.mem_of_getElem? (i := 89) rfl))) (ty := (.object "java/lang/String")) (by decide)
  have F3_declaredOn : Fld Z h3 b3 "com/example/clear_tx/cleartx/TransactionDefinition$Settings" "declaredOn" "Ljava/lang/String;" .null := D3 (Or.inl (hw _ (List.mem_of_getElem? (i := 96) rfl))) (ty := (.object "java/lang/String")) (by decide)
  show own_EndsW _ _ _ _ _ _ _ T3 (mkF m 10 #[.val (.ref a1), .unset] [(.ref b3)])
  refine own_stW (fun _ kq => XS.dup X3.here hx rfl (hb hby d2_10) rfl rfl kq) ?_
  show own_EndsW _ _ _ _ _ _ _ T3 (mkF m 11 #[.val (.ref a1), .unset] [(.ref b3), (.ref b3)])
  obtain ⟨_, ⟨T4, L4, k4, n4⟩, X4, ⟨Lc4, hQ4, l4, y4, z4⟩, st4⟩ := own_specialR X3 hx hZ (y := (⟨"com/example/clear_tx/cleartx/TransactionDefinition$Settings", "<init>", "()V"⟩ : MethodName)) rfl hown (hw _ (List.mem_of_getElem? (i := 27) rfl)) (hw _ (List.mem_of_getElem? (i := 28) rfl)) (hw _ (List.mem_of_getElem? (i := 29) rfl)) (by decide) (backOf (W := 1) (rm_sinit l Z a0 hw [] b3 r0 rD r3 r5 r6 r4 r2 r1 rL h3 n0 O3 A3 F3_propagation F3_isolation F3_readOnly F3_timeout F3_name F3_rollbackRules F3_declaredOn g_b3 G) hZ (hw _ (List.mem_of_getElem? (i := 29) rfl)) (hw _ (List.mem_of_getElem? (i := 26) rfl)) (by decide) (by decide)) (g := (mkF m 11 #[.val (.ref a1), .unset] [(.ref b3), (.ref b3)])) rfl (by rw [hml]; rfl) (a := b3) (argsL := []) (rest := [(.ref b3)]) (lenOf pd_3 rfl) rfl (by show 2 * 0 + _ ≤ _; exact Nat.le_of_eq rfl) (hb hby d2_11) ⟨rfl, e3, (by decide : 3 + 0 ≤ _), (by decide : 127 + 0 ≤ _)⟩
  dsimp only [Pt.U, Pt.locs, Pt.cells, Pt.slots] at X4 l4 y4 z4 st4 hQ4
  subst l4 y4 z4
  obtain ⟨rfl, N4q, K4, O4, f4_0, f4_1, f4_2, f4_3, f4_4, f4_5, f4_6, f4_7⟩ := hQ4
  have hk := Nat.le_trans hk K4.1
  have N4 := Fr.app N2 N4q
  refine own_trW st4 ?_
  show own_EndsW _ _ _ _ _ _ _ T4 (mkF m 14 #[.val (.ref a1), .unset] [(.ref b3)])
  refine own_stW (fun _ kq => XS.astoreN X4.here hx rfl (hb hby d2_14) rfl rfl (l' := #[.val (.ref a1), .val (.ref b3)]) rfl kq) ?_
  show own_EndsW _ _ _ _ _ _ _ T4 (mkF m 15 #[.val (.ref a1), .val (.ref b3)] [])
  refine own_stW (fun _ kq => XS.aloadN X4.here hx rfl (hb hby d2_15) rfl rfl kq) ?_
  show own_EndsW _ _ _ _ _ _ _ T4 (mkF m 16 #[.val (.ref a1), .val (.ref b3)] [(.ref b3)])
  refine own_stW (fun _ kq => XS.aloadN X4.here hx rfl (hb hby d2_16) rfl rfl kq) ?_
  show own_EndsW _ _ _ _ _ _ _ T4 (mkF m 17 #[.val (.ref a1), .val (.ref b3)] [(.ref a1), (.ref b3)])
  obtain ⟨T5, h5, X5, e5, W5, st5⟩ := own_putR X4 hx hZ hown (hw _ (List.mem_of_getElem? (i := 48) rfl)) rfl f4_1 f4_0 (hw _ (List.mem_of_getElem? (i := 49) rfl)) (hw _ (List.mem_of_getElem? (i := 25) rfl)) (ty := (.object "com/example/clear_tx/cleartx/Propagation")) (by decide) rfl rfl (g := (mkF m 17 #[.val (.ref a1), .val (.ref b3)] [(.ref a1), (.ref b3)])) rfl rfl (hb hby d2_17)
  have Fw5 := f4_1.same W5
  have N5 := Fr.snoc X5 N4 g_b3
  have O5 := O4.wr W5 g_b3
  have hk := Nat.le_trans hk (Nat.le_of_eq W5.size.symm)
  refine own_stW st5 ?_
  show own_EndsW _ _ _ _ _ _ _ T5 (mkF m 20 #[.val (.ref a1), .val (.ref b3)] [])
  obtain ⟨T6, h6, X6, e6, E6, A6, D6, -, st6⟩ := newO X5 hx hZ hown (hw _ (List.mem_of_getElem? (i := 50) rfl)) (hw _ (List.mem_of_getElem? (i := 51) rfl)) (hw _ (List.mem_of_getElem? (i := 10) rfl)) e5 (g := (mkF m 20 #[.val (.ref a1), .val (.ref b3)] [])) rfl (hb hby d2_20) (by decide) (by decide)
  obtain ⟨b6, g6⟩ : ∃ z, z = h5.size := ⟨_, rfl⟩
  rw [← g6] at A6 D6 st6
  have ne_b3_b6 : b3 ≠ b6 := Nat.ne_of_lt (Nat.lt_of_lt_of_le (f4_0.wr W5).lt (Nat.le_of_eq g6.symm))
  have g_b6 : n0 ≤ b6 := Nat.le_trans (O5.1 ▸ O5.2.1) (Nat.le_of_eq g6.symm)
  have sz_b6 : h0.size ≤ b6 := Nat.le_trans (((((Keep.refl h0 []).ext E1).ext E3).trans K4 (allS (Or.inr sz_b3) all0)).wr W5 (Or.inr sz_b3)).1 (Nat.le_of_eq g6.symm)
  have O6 := O5.ext E6
  have hk := Nat.le_trans hk E6.1
  refine own_stW st6 ?_
  have F6_settings : Fld Z h6 b6 "com/example/clear_tx/cleartx/TransactionDefinition" "settings" "Lcom/example/clear_tx/cleartx/TransactionDefinition$Settings;" .null := D6 (Or.inr (hw _ (List.mem_of_getElem? (i := 57) rfl))) (ty := (.object "com/example/clear_tx/cleartx/TransactionDefinition$Settings")) (by decide)
  show own_EndsW _ _ _ _ _ _ _ T6 (mkF m 23 #[.val (.ref a1), .val (.ref b3)] [(.ref b6)])
  refine own_stW (fun _ kq => XS.dup X6.here hx rfl (hb hby d2_23) rfl rfl kq) ?_
  show own_EndsW _ _ _ _ _ _ _ T6 (mkF m 24 #[.val (.ref a1), .val (.ref b3)] [(.ref b6), (.ref b6)])
  refine own_stW (fun _ kq => XS.aloadN X6.here hx rfl (hb hby d2_24) rfl rfl kq) ?_
  show own_EndsW _ _ _ _ _ _ _ T6 (mkF m 25 #[.val (.ref a1), .val (.ref b3)] [(.ref b3), (.ref b6), (.ref b6)])
  obtain ⟨_, _, ⟨T7, L7, k7, n7⟩, -, X7, ⟨Lc7, hQ7, l7, y7, z7⟩, st7⟩ := X6.specialBack hx (y := (⟨"com/example/clear_tx/cleartx/TransactionDefinition", "<init>", "(Lcom/example/clear_tx/cleartx/TransactionDefinition$Settings;)V"⟩ : MethodName)) rfl hown (mvT hZ (hw _ (List.mem_of_getElem? (i := 52) rfl))) (mvT hZ (hw _ (List.mem_of_getElem? (i := 53) rfl))) (mvT hZ (hw _ (List.mem_of_getElem? (i := 54) rfl))) (by decide) (backOf (W := 1) (rm_tinit l Z a0 hw [] b6 b3 h6 n0 O6 A6 F6_settings g_b6) hZ (hw _ (List.mem_of_getElem? (i := 54) rfl)) (hw _ (List.mem_of_getElem? (i := 10) rfl)) (by decide) (by decide)) (g := (mkF m 25 #[.val (.ref a1), .val (.ref b3)] [(.ref b3), (.ref b6), (.ref b6)])) rfl (by rw [hml]; rfl) (Steps.refl _) (a := b6) (argsL := [(.ref b3)]) (rest := [(.ref b6)]) (lenOf pd_5 rfl) rfl (by show 2 * 0 + _ ≤ _; exact Nat.le_of_eq rfl) (hb hby d2_25) (fun _ _ => ⟨rfl, e6, (by decide : 4 + 0 ≤ _), (by decide : 128 + 0 ≤ _)⟩)
  dsimp only [Pt.U, Pt.locs, Pt.cells, Pt.slots] at X7 l7 y7 z7 st7 hQ7
  subst l7 y7 z7
  obtain ⟨rfl, N7q, K7, O7, f7_0, f7_1⟩ := hQ7
  have hk := Nat.le_trans hk K7.1
  have N7 := Fr.app N5 N7q
  refine own_trW st7 ?_
  show own_EndsW _ _ _ _ _ _ _ T7 (mkF m 28 #[.val (.ref a1), .val (.ref b3)] [(.ref b6)])
  refine own_retAW X7 hS hk hx Bd.returns rfl rfl rfl (hb hby d2_28) hlk (by decide) (by decide) ?_
  show Q_rm_of Z a1 r0 rD r3 r5 r6 r4 r2 r1 rL h0 n0 _ T7.heap _
  exact ⟨_, _, rfl, N7, (((((((Keep.refl h0 []).ext E1).ext E3).trans K4 (allS (Or.inr sz_b3) all0)).wr W5 (Or.inr sz_b3)).ext E6).trans K7 (allS (Or.inr sz_b6) all0)), O7, f7_0, f7_1, ((Fw5.ext E6).keep K7 (ninS ne_b3_b6 nin0)), (((f4_2.other W5 (Or.inr (slot_ne (Or.inl (hw _ (List.mem_of_getElem? (i := 37) rfl))) (Or.inl (hw _ (List.mem_of_getElem? (i := 49) rfl))) (by decide) (t := (.object "com/example/clear_tx/cleartx/Isolation")) (t' := (.object "com/example/clear_tx/cleartx/Propagation")) (by decide) (by decide)))).ext E6).keep K7 (ninS ne_b3_b6 nin0)), (((f4_3.other W5 (Or.inr (slot_ne (Or.inl (hw _ (List.mem_of_getElem? (i := 76) rfl))) (Or.inl (hw _ (List.mem_of_getElem? (i := 49) rfl))) (by decide) (t := .boolean) (t' := (.object "com/example/clear_tx/cleartx/Propagation")) (by decide) (by decide)))).ext E6).keep K7 (ninS ne_b3_b6 nin0)), (((f4_4.other W5 (Or.inr (slot_ne (Or.inl (hw _ (List.mem_of_getElem? (i := 39) rfl))) (Or.inl (hw _ (List.mem_of_getElem? (i := 49) rfl))) (by decide) (t := .int) (t' := (.object "com/example/clear_tx/cleartx/Propagation")) (by decide) (by decide)))).ext E6).keep K7 (ninS ne_b3_b6 nin0)), (((f4_5.other W5 (Or.inr (slot_ne (Or.inl (hw _ (List.mem_of_getElem? (i := 89) rfl))) (Or.inl (hw _ (List.mem_of_getElem? (i := 49) rfl))) (by decide) (t := (.object "java/lang/String")) (t' := (.object "com/example/clear_tx/cleartx/Propagation")) (by decide) (by decide)))).ext E6).keep K7 (ninS ne_b3_b6 nin0)), (((f4_6.other W5 (Or.inr (slot_ne (Or.inl (hw _ (List.mem_of_getElem? (i := 47) rfl))) (Or.inl (hw _ (List.mem_of_getElem? (i := 49) rfl))) (by decide) (t := (.object "java/util/List")) (t' := (.object "com/example/clear_tx/cleartx/Propagation")) (by decide) (by decide)))).ext E6).keep K7 (ninS ne_b3_b6 nin0)), (((f4_7.other W5 (Or.inr (slot_ne (Or.inl (hw _ (List.mem_of_getElem? (i := 96) rfl))) (Or.inl (hw _ (List.mem_of_getElem? (i := 49) rfl))) (by decide) (t := (.object "java/lang/String")) (t' := (.object "com/example/clear_tx/cleartx/Propagation")) (by decide) (by decide)))).ext E6).keep K7 (ninS ne_b3_b6 nin0))⟩
theorem d8_0 : decode prog_21_method_4_code 0 = .ok (.aload_n 0, 1) := by decide +kernel
theorem d8_1 : decode prog_21_method_4_code 1 = .ok (.getfield 7, 3) := by decide +kernel
theorem d8_4 : decode prog_21_method_4_code 4 = .ok (.getfield 24, 3) := by decide +kernel
theorem d8_7 : decode prog_21_method_4_code 7 = .ok (.areturn, 1) := by decide +kernel
theorem ef_rm_get8 (m : MethodId) (x0 : Addr) : entryFrame m #[(.ref x0)] 1 = mkF m 0 #[.val (.ref x0)] [] := by first | (simp [entryFrame, mkF, argsToLocals, Value.category]; done) | rfl
def Q_rm_get8 (Z : State) (a1 : Addr) (a2 : Addr) (a3 : Addr) (h0 : Heap) (n0 : Nat) (v : Option Value) (h : Heap) (L : List Loc) : Prop := v = some (.ref a3) ∧ Fr n0 L ∧ h = h0
set_option maxRecDepth 65536 in
set_option maxHeartbeats 40000000 in
theorem rm_get8 (l : Launch) (Z : State) (a0 : Array Value) (hw : ∀ d ∈ tables_1, d.before a0 Z = true) (ws : List Jvm.Cond) (a1 : Addr) (a2 : Addr) (a3 : Addr) (h0 : Heap) (n0 : Nat) (O0 : Old Z n0 h0) (F1 : Fld Z h0 a1 "com/example/clear_tx/cleartx/TransactionDefinition" "settings" "Lcom/example/clear_tx/cleartx/TransactionDefinition$Settings;" (.ref a2)) (F2 : Fld Z h0 a2 "com/example/clear_tx/cleartx/TransactionDefinition$Settings" "propagation" "Lcom/example/clear_tx/cleartx/Propagation;" (.ref a3)) :
    MetFree l (⟨"com/example/clear_tx/cleartx/TransactionDefinition", "propagation", "()Lcom/example/clear_tx/cleartx/Propagation;"⟩ : MethodName) (head1 (Jvm.Cond.code (⟨"com/example/clear_tx/cleartx/TransactionDefinition", "propagation", "()Lcom/example/clear_tx/cleartx/Propagation;"⟩ : MethodName) prog_21_method_4_code 1 (some (.object "com/example/clear_tx/cleartx/Propagation")) :: ws) ({ frames := 0, cells := 0, slots := 0, locals := 0 } : Room)) (fun a U => a = #[(.ref a1)] ∧ Z.Warmed39 U.vm ∧ U.heap = h0) (fun _ _ _ _ _ => True) (fun _ U o U' => ∃ v L, o = .returned v ∧ Q_rm_get8 Z a1 a2 a3 h0 n0 v U'.heap L ∧ FrameEnd U o U' L ({ frames := 0, cells := 0, slots := 0, locals := 0 } : Room).cells ({ frames := 0, cells := 0, slots := 0, locals := 0 } : Room).slots) := by
  refine MetFree.of_bodySF (plainFor_of_name pn_4) hisR ?_
  intro p e s m args below meth c s₁ Bd hml0 hP hK
  obtain ⟨rfl, hZ, hh⟩ := hP
  have hx := Bd.exec
  have hby := Bd.bytes
  have hml : c.maxLocals = 1 := hml0
  have hown : s.vm.findClass "com/example/clear_tx/cleartx/TransactionDefinition" = some m.cls := findClass_of_methodNamed Bd.named
  have hnm := (name_of_methodNamed Bd.named Bd.method).1
  have hlk := BodyLoose.notSynchronized Bd
  have X0 : Stand p l e ({ frames := 0, cells := 0, slots := 0, locals := 0 } : Room) s m #[(.ref a1)] below meth c s₁ [] 0 0 := Stand.of_body Bd
  have e0 : s₁.heap = h0 := by rw [← hh, Bd.state]; rfl
  have N0 := Fr.nil n0
  show own_Ends p e below s (Q_rm_get8 Z a1 a2 a3 h0 n0) ({ frames := 0, cells := 0, slots := 0, locals := 0 } : Room).cells ({ frames := 0, cells := 0, slots := 0, locals := 0 } : Room).slots s₁ (entryFrame m #[(.ref a1)] 1)
  rw [ef_rm_get8 m a1]
  show own_Ends _ _ _ _ _ _ _ s₁ (mkF m 0 #[.val (.ref a1)] [])
  refine own_st (fun _ kq => XS.aloadN X0.here hx rfl (hb hby d8_0) rfl rfl kq) ?_
  show own_Ends _ _ _ _ _ _ _ s₁ (mkF m 1 #[.val (.ref a1)] [(.ref a1)])
  obtain ⟨T1, X1, e1, st1⟩ := getF X0 hx hZ hown (host := "") (Or.inl (hw _ (List.mem_of_getElem? (i := 56) rfl))) Via.refl e0 F1 (g := (mkF m 1 #[.val (.ref a1)] [(.ref a1)])) rfl rfl (hb hby d8_1)
  refine own_st st1 ?_
  show own_Ends _ _ _ _ _ _ _ T1 (mkF m 4 #[.val (.ref a1)] [(.ref a2)])
  refine own_st (own_getR X1 hx hZ hown (hw _ (List.mem_of_getElem? (i := 48) rfl)) e1 F2 (g := (mkF m 4 #[.val (.ref a1)] [(.ref a2)])) rfl rfl (hb hby d8_4)) ?_
  show own_Ends _ _ _ _ _ _ _ T1 (mkF m 7 #[.val (.ref a1)] [(.ref a3)])
  refine own_retA X1 hx Bd.returns rfl rfl rfl (hb hby d8_7) hlk (by decide) (by decide) ?_
  show Q_rm_get8 Z a1 a2 a3 h0 n0 _ T1.heap _
  rw [e1]
  exact ⟨rfl, N0, rfl⟩
theorem d9_0 : decode prog_21_method_5_code 0 = .ok (.aload_n 0, 1) := by decide +kernel
theorem d9_1 : decode prog_21_method_5_code 1 = .ok (.getfield 7, 3) := by decide +kernel
theorem d9_4 : decode prog_21_method_5_code 4 = .ok (.getfield 137, 3) := by decide +kernel
theorem d9_7 : decode prog_21_method_5_code 7 = .ok (.areturn, 1) := by decide +kernel
theorem ef_rm_get9 (m : MethodId) (x0 : Addr) : entryFrame m #[(.ref x0)] 1 = mkF m 0 #[.val (.ref x0)] [] := by first | (simp [entryFrame, mkF, argsToLocals, Value.category]; done) | rfl
def Q_rm_get9 (Z : State) (a1 : Addr) (a2 : Addr) (rD : Addr) (h0 : Heap) (n0 : Nat) (v : Option Value) (h : Heap) (L : List Loc) : Prop := v = some (.ref rD) ∧ Fr n0 L ∧ h = h0
set_option maxRecDepth 65536 in
set_option maxHeartbeats 40000000 in
theorem rm_get9 (l : Launch) (Z : State) (a0 : Array Value) (hw : ∀ d ∈ tables_1, d.before a0 Z = true) (ws : List Jvm.Cond) (a1 : Addr) (a2 : Addr) (rD : Addr) (h0 : Heap) (n0 : Nat) (O0 : Old Z n0 h0) (F1 : Fld Z h0 a1 "com/example/clear_tx/cleartx/TransactionDefinition" "settings" "Lcom/example/clear_tx/cleartx/TransactionDefinition$Settings;" (.ref a2)) (F2 : Fld Z h0 a2 "com/example/clear_tx/cleartx/TransactionDefinition$Settings" "isolation" "Lcom/example/clear_tx/cleartx/Isolation;" (.ref rD)) :
    MetFree l (⟨"com/example/clear_tx/cleartx/TransactionDefinition", "isolation", "()Lcom/example/clear_tx/cleartx/Isolation;"⟩ : MethodName) (head1 (Jvm.Cond.code (⟨"com/example/clear_tx/cleartx/TransactionDefinition", "isolation", "()Lcom/example/clear_tx/cleartx/Isolation;"⟩ : MethodName) prog_21_method_5_code 1 (some (.object "com/example/clear_tx/cleartx/Isolation")) :: ws) ({ frames := 0, cells := 0, slots := 0, locals := 0 } : Room)) (fun a U => a = #[(.ref a1)] ∧ Z.Warmed39 U.vm ∧ U.heap = h0) (fun _ _ _ _ _ => True) (fun _ U o U' => ∃ v L, o = .returned v ∧ Q_rm_get9 Z a1 a2 rD h0 n0 v U'.heap L ∧ FrameEnd U o U' L ({ frames := 0, cells := 0, slots := 0, locals := 0 } : Room).cells ({ frames := 0, cells := 0, slots := 0, locals := 0 } : Room).slots) := by
  refine MetFree.of_bodySF (plainFor_of_name pn_4) hisR ?_
  intro p e s m args below meth c s₁ Bd hml0 hP hK
  obtain ⟨rfl, hZ, hh⟩ := hP
  have hx := Bd.exec
  have hby := Bd.bytes
  have hml : c.maxLocals = 1 := hml0
  have hown : s.vm.findClass "com/example/clear_tx/cleartx/TransactionDefinition" = some m.cls := findClass_of_methodNamed Bd.named
  have hnm := (name_of_methodNamed Bd.named Bd.method).1
  have hlk := BodyLoose.notSynchronized Bd
  have X0 : Stand p l e ({ frames := 0, cells := 0, slots := 0, locals := 0 } : Room) s m #[(.ref a1)] below meth c s₁ [] 0 0 := Stand.of_body Bd
  have e0 : s₁.heap = h0 := by rw [← hh, Bd.state]; rfl
  have N0 := Fr.nil n0
  show own_Ends p e below s (Q_rm_get9 Z a1 a2 rD h0 n0) ({ frames := 0, cells := 0, slots := 0, locals := 0 } : Room).cells ({ frames := 0, cells := 0, slots := 0, locals := 0 } : Room).slots s₁ (entryFrame m #[(.ref a1)] 1)
  rw [ef_rm_get9 m a1]
  show own_Ends _ _ _ _ _ _ _ s₁ (mkF m 0 #[.val (.ref a1)] [])
  refine own_st (fun _ kq => XS.aloadN X0.here hx rfl (hb hby d9_0) rfl rfl kq) ?_
  show own_Ends _ _ _ _ _ _ _ s₁ (mkF m 1 #[.val (.ref a1)] [(.ref a1)])
  obtain ⟨T1, X1, e1, st1⟩ := getF X0 hx hZ hown (host := "") (Or.inl (hw _ (List.mem_of_getElem? (i := 56) rfl))) Via.refl e0 F1 (g := (mkF m 1 #[.val (.ref a1)] [(.ref a1)])) rfl rfl (hb hby d9_1)
  refine own_st st1 ?_
  show own_Ends _ _ _ _ _ _ _ T1 (mkF m 4 #[.val (.ref a1)] [(.ref a2)])
  refine own_st (own_getR X1 hx hZ hown (hw _ (List.mem_of_getElem? (i := 68) rfl)) e1 F2 (g := (mkF m 4 #[.val (.ref a1)] [(.ref a2)])) rfl rfl (hb hby d9_4)) ?_
  show own_Ends _ _ _ _ _ _ _ T1 (mkF m 7 #[.val (.ref a1)] [(.ref rD)])
  refine own_retA X1 hx Bd.returns rfl rfl rfl (hb hby d9_7) hlk (by decide) (by decide) ?_
  show Q_rm_get9 Z a1 a2 rD h0 n0 _ T1.heap _
  rw [e1]
  exact ⟨rfl, N0, rfl⟩
theorem d10_0 : decode prog_21_method_6_code 0 = .ok (.aload_n 0, 1) := by decide +kernel
theorem d10_1 : decode prog_21_method_6_code 1 = .ok (.getfield 7, 3) := by decide +kernel
theorem d10_4 : decode prog_21_method_6_code 4 = .ok (.getfield 140, 3) := by decide +kernel
theorem d10_7 : decode prog_21_method_6_code 7 = .ok (.ireturn, 1) := by decide +kernel
theorem ef_rm_get10 (m : MethodId) (x0 : Addr) : entryFrame m #[(.ref x0)] 1 = mkF m 0 #[.val (.ref x0)] [] := by first | (simp [entryFrame, mkF, argsToLocals, Value.category]; done) | rfl
def Q_rm_get10 (Z : State) (a1 : Addr) (a2 : Addr) (h0 : Heap) (n0 : Nat) (v : Option Value) (h : Heap) (L : List Loc) : Prop := v = some (.int (0 : Int32)) ∧ Fr n0 L ∧ h = h0
set_option maxRecDepth 65536 in
set_option maxHeartbeats 40000000 in
theorem rm_get10 (l : Launch) (Z : State) (a0 : Array Value) (hw : ∀ d ∈ tables_1, d.before a0 Z = true) (ws : List Jvm.Cond) (a1 : Addr) (a2 : Addr) (h0 : Heap) (n0 : Nat) (O0 : Old Z n0 h0) (F1 : Fld Z h0 a1 "com/example/clear_tx/cleartx/TransactionDefinition" "settings" "Lcom/example/clear_tx/cleartx/TransactionDefinition$Settings;" (.ref a2)) (F2 : Fld Z h0 a2 "com/example/clear_tx/cleartx/TransactionDefinition$Settings" "readOnly" "Z" (.int (0 : Int32))) :
    MetFree l (⟨"com/example/clear_tx/cleartx/TransactionDefinition", "isReadOnly", "()Z"⟩ : MethodName) (head1 (Jvm.Cond.code (⟨"com/example/clear_tx/cleartx/TransactionDefinition", "isReadOnly", "()Z"⟩ : MethodName) prog_21_method_6_code 1 (some .boolean) :: ws) ({ frames := 0, cells := 0, slots := 0, locals := 0 } : Room)) (fun a U => a = #[(.ref a1)] ∧ Z.Warmed39 U.vm ∧ U.heap = h0) (fun _ _ _ _ _ => True) (fun _ U o U' => ∃ v L, o = .returned v ∧ Q_rm_get10 Z a1 a2 h0 n0 v U'.heap L ∧ FrameEnd U o U' L ({ frames := 0, cells := 0, slots := 0, locals := 0 } : Room).cells ({ frames := 0, cells := 0, slots := 0, locals := 0 } : Room).slots) := by
  refine MetFree.of_bodySF (plainFor_of_name pn_4) hisR ?_
  intro p e s m args below meth c s₁ Bd hml0 hP hK
  obtain ⟨rfl, hZ, hh⟩ := hP
  have hx := Bd.exec
  have hby := Bd.bytes
  have hml : c.maxLocals = 1 := hml0
  have hown : s.vm.findClass "com/example/clear_tx/cleartx/TransactionDefinition" = some m.cls := findClass_of_methodNamed Bd.named
  have hnm := (name_of_methodNamed Bd.named Bd.method).1
  have hlk := BodyLoose.notSynchronized Bd
  have X0 : Stand p l e ({ frames := 0, cells := 0, slots := 0, locals := 0 } : Room) s m #[(.ref a1)] below meth c s₁ [] 0 0 := Stand.of_body Bd
  have e0 : s₁.heap = h0 := by rw [← hh, Bd.state]; rfl
  have N0 := Fr.nil n0
  show own_Ends p e below s (Q_rm_get10 Z a1 a2 h0 n0) ({ frames := 0, cells := 0, slots := 0, locals := 0 } : Room).cells ({ frames := 0, cells := 0, slots := 0, locals := 0 } : Room).slots s₁ (entryFrame m #[(.ref a1)] 1)
  rw [ef_rm_get10 m a1]
  show own_Ends _ _ _ _ _ _ _ s₁ (mkF m 0 #[.val (.ref a1)] [])
  refine own_st (fun _ kq => XS.aloadN X0.here hx rfl (hb hby d10_0) rfl rfl kq) ?_
  show own_Ends _ _ _ _ _ _ _ s₁ (mkF m 1 #[.val (.ref a1)] [(.ref a1)])
  obtain ⟨T1, X1, e1, st1⟩ := getF X0 hx hZ hown (host := "") (Or.inl (hw _ (List.mem_of_getElem? (i := 56) rfl))) Via.refl e0 F1 (g := (mkF m 1 #[.val (.ref a1)] [(.ref a1)])) rfl rfl (hb hby d10_1)
  refine own_st st1 ?_
  show own_Ends _ _ _ _ _ _ _ T1 (mkF m 4 #[.val (.ref a1)] [(.ref a2)])
  refine own_st (own_getR X1 hx hZ hown (hw _ (List.mem_of_getElem? (i := 75) rfl)) e1 F2 (g := (mkF m 4 #[.val (.ref a1)] [(.ref a2)])) rfl rfl (hb hby d10_4)) ?_
  show own_Ends _ _ _ _ _ _ _ T1 (mkF m 7 #[.val (.ref a1)] [(.int (0 : Int32))])
  refine own_retN X1 hx (t := .boolean) Bd.returns (by simp) (hb hby d10_7) hlk (by decide) (by decide) (w := (0 : Int32)) (by decide) ?_
  show Q_rm_get10 Z a1 a2 h0 n0 _ T1.heap _
  rw [e1]
  exact ⟨rfl, N0, rfl⟩
theorem d11_0 : decode prog_21_method_7_code 0 = .ok (.aload_n 0, 1) := by decide +kernel
theorem d11_1 : decode prog_21_method_7_code 1 = .ok (.getfield 7, 3) := by decide +kernel
theorem d11_4 : decode prog_21_method_7_code 4 = .ok (.getfield 143, 3) := by decide +kernel
theorem d11_7 : decode prog_21_method_7_code 7 = .ok (.ireturn, 1) := by decide +kernel
theorem ef_rm_get11 (m : MethodId) (x0 : Addr) : entryFrame m #[(.ref x0)] 1 = mkF m 0 #[.val (.ref x0)] [] := by first | (simp [entryFrame, mkF, argsToLocals, Value.category]; done) | rfl
def Q_rm_get11 (Z : State) (a1 : Addr) (a2 : Addr) (h0 : Heap) (n0 : Nat) (v : Option Value) (h : Heap) (L : List Loc) : Prop := v = some (.int (-1 : Int32)) ∧ Fr n0 L ∧ h = h0
set_option maxRecDepth 65536 in
set_option maxHeartbeats 40000000 in
theorem rm_get11 (l : Launch) (Z : State) (a0 : Array Value) (hw : ∀ d ∈ tables_1, d.before a0 Z = true) (ws : List Jvm.Cond) (a1 : Addr) (a2 : Addr) (h0 : Heap) (n0 : Nat) (O0 : Old Z n0 h0) (F1 : Fld Z h0 a1 "com/example/clear_tx/cleartx/TransactionDefinition" "settings" "Lcom/example/clear_tx/cleartx/TransactionDefinition$Settings;" (.ref a2)) (F2 : Fld Z h0 a2 "com/example/clear_tx/cleartx/TransactionDefinition$Settings" "timeout" "I" (.int (-1 : Int32))) :
    MetFree l (⟨"com/example/clear_tx/cleartx/TransactionDefinition", "timeout", "()I"⟩ : MethodName) (head1 (Jvm.Cond.code (⟨"com/example/clear_tx/cleartx/TransactionDefinition", "timeout", "()I"⟩ : MethodName) prog_21_method_7_code 1 (some .int) :: ws) ({ frames := 0, cells := 0, slots := 0, locals := 0 } : Room)) (fun a U => a = #[(.ref a1)] ∧ Z.Warmed39 U.vm ∧ U.heap = h0) (fun _ _ _ _ _ => True) (fun _ U o U' => ∃ v L, o = .returned v ∧ Q_rm_get11 Z a1 a2 h0 n0 v U'.heap L ∧ FrameEnd U o U' L ({ frames := 0, cells := 0, slots := 0, locals := 0 } : Room).cells ({ frames := 0, cells := 0, slots := 0, locals := 0 } : Room).slots) := by
  refine MetFree.of_bodySF (plainFor_of_name pn_4) hisR ?_
  intro p e s m args below meth c s₁ Bd hml0 hP hK
  obtain ⟨rfl, hZ, hh⟩ := hP
  have hx := Bd.exec
  have hby := Bd.bytes
  have hml : c.maxLocals = 1 := hml0
  have hown : s.vm.findClass "com/example/clear_tx/cleartx/TransactionDefinition" = some m.cls := findClass_of_methodNamed Bd.named
  have hnm := (name_of_methodNamed Bd.named Bd.method).1
  have hlk := BodyLoose.notSynchronized Bd
  have X0 : Stand p l e ({ frames := 0, cells := 0, slots := 0, locals := 0 } : Room) s m #[(.ref a1)] below meth c s₁ [] 0 0 := Stand.of_body Bd
  have e0 : s₁.heap = h0 := by rw [← hh, Bd.state]; rfl
  have N0 := Fr.nil n0
  show own_Ends p e below s (Q_rm_get11 Z a1 a2 h0 n0) ({ frames := 0, cells := 0, slots := 0, locals := 0 } : Room).cells ({ frames := 0, cells := 0, slots := 0, locals := 0 } : Room).slots s₁ (entryFrame m #[(.ref a1)] 1)
  rw [ef_rm_get11 m a1]
  show own_Ends _ _ _ _ _ _ _ s₁ (mkF m 0 #[.val (.ref a1)] [])
  refine own_st (fun _ kq => XS.aloadN X0.here hx rfl (hb hby d11_0) rfl rfl kq) ?_
  show own_Ends _ _ _ _ _ _ _ s₁ (mkF m 1 #[.val (.ref a1)] [(.ref a1)])
  obtain ⟨T1, X1, e1, st1⟩ := getF X0 hx hZ hown (host := "") (Or.inl (hw _ (List.mem_of_getElem? (i := 56) rfl))) Via.refl e0 F1 (g := (mkF m 1 #[.val (.ref a1)] [(.ref a1)])) rfl rfl (hb hby d11_1)
  refine own_st st1 ?_
  show own_Ends _ _ _ _ _ _ _ T1 (mkF m 4 #[.val (.ref a1)] [(.ref a2)])
  refine own_st (own_getR X1 hx hZ hown (hw _ (List.mem_of_getElem? (i := 82) rfl)) e1 F2 (g := (mkF m 4 #[.val (.ref a1)] [(.ref a2)])) rfl rfl (hb hby d11_4)) ?_
  show own_Ends _ _ _ _ _ _ _ T1 (mkF m 7 #[.val (.ref a1)] [(.int (-1 : Int32))])
  refine own_retI X1 hx Bd.returns (hb hby d11_7) hlk (by decide) (by decide) ?_
  show Q_rm_get11 Z a1 a2 h0 n0 _ T1.heap _
  rw [e1]
  exact ⟨rfl, N0, rfl⟩
theorem d12_0 : decode prog_21_method_8_code 0 = .ok (.aload_n 0, 1) := by decide +kernel
theorem d12_1 : decode prog_21_method_8_code 1 = .ok (.getfield 7, 3) := by decide +kernel
theorem d12_4 : decode prog_21_method_8_code 4 = .ok (.getfield 146, 3) := by decide +kernel
theorem d12_7 : decode prog_21_method_8_code 7 = .ok (.areturn, 1) := by decide +kernel
theorem ef_rm_get12 (m : MethodId) (x0 : Addr) : entryFrame m #[(.ref x0)] 1 = mkF m 0 #[.val (.ref x0)] [] := by first | (simp [entryFrame, mkF, argsToLocals, Value.category]; done) | rfl
def Q_rm_get12 (Z : State) (a1 : Addr) (a2 : Addr) (h0 : Heap) (n0 : Nat) (v : Option Value) (h : Heap) (L : List Loc) : Prop := v = some .null ∧ Fr n0 L ∧ h = h0
set_option maxRecDepth 65536 in
set_option maxHeartbeats 40000000 in
theorem rm_get12 (l : Launch) (Z : State) (a0 : Array Value) (hw : ∀ d ∈ tables_1, d.before a0 Z = true) (ws : List Jvm.Cond) (a1 : Addr) (a2 : Addr) (h0 : Heap) (n0 : Nat) (O0 : Old Z n0 h0) (F1 : Fld Z h0 a1 "com/example/clear_tx/cleartx/TransactionDefinition" "settings" "Lcom/example/clear_tx/cleartx/TransactionDefinition$Settings;" (.ref a2)) (F2 : Fld Z h0 a2 "com/example/clear_tx/cleartx/TransactionDefinition$Settings" "name" "Ljava/lang/String;" .null) :
    MetFree l (⟨"com/example/clear_tx/cleartx/TransactionDefinition", "name", "()Ljava/lang/String;"⟩ : MethodName) (head1 (Jvm.Cond.code (⟨"com/example/clear_tx/cleartx/TransactionDefinition", "name", "()Ljava/lang/String;"⟩ : MethodName) prog_21_method_8_code 1 (some (.object "java/lang/String")) :: ws) ({ frames := 0, cells := 0, slots := 0, locals := 0 } : Room)) (fun a U => a = #[(.ref a1)] ∧ Z.Warmed39 U.vm ∧ U.heap = h0) (fun _ _ _ _ _ => True) (fun _ U o U' => ∃ v L, o = .returned v ∧ Q_rm_get12 Z a1 a2 h0 n0 v U'.heap L ∧ FrameEnd U o U' L ({ frames := 0, cells := 0, slots := 0, locals := 0 } : Room).cells ({ frames := 0, cells := 0, slots := 0, locals := 0 } : Room).slots) := by
  refine MetFree.of_bodySF (plainFor_of_name pn_4) hisR ?_
  intro p e s m args below meth c s₁ Bd hml0 hP hK
  obtain ⟨rfl, hZ, hh⟩ := hP
  have hx := Bd.exec
  have hby := Bd.bytes
  have hml : c.maxLocals = 1 := hml0
  have hown : s.vm.findClass "com/example/clear_tx/cleartx/TransactionDefinition" = some m.cls := findClass_of_methodNamed Bd.named
  have hnm := (name_of_methodNamed Bd.named Bd.method).1
  have hlk := BodyLoose.notSynchronized Bd
  have X0 : Stand p l e ({ frames := 0, cells := 0, slots := 0, locals := 0 } : Room) s m #[(.ref a1)] below meth c s₁ [] 0 0 := Stand.of_body Bd
  have e0 : s₁.heap = h0 := by rw [← hh, Bd.state]; rfl
  have N0 := Fr.nil n0
  show own_Ends p e below s (Q_rm_get12 Z a1 a2 h0 n0) ({ frames := 0, cells := 0, slots := 0, locals := 0 } : Room).cells ({ frames := 0, cells := 0, slots := 0, locals := 0 } : Room).slots s₁ (entryFrame m #[(.ref a1)] 1)
  rw [ef_rm_get12 m a1]
  show own_Ends _ _ _ _ _ _ _ s₁ (mkF m 0 #[.val (.ref a1)] [])
  refine own_st (fun _ kq => XS.aloadN X0.here hx rfl (hb hby d12_0) rfl rfl kq) ?_
  show own_Ends _ _ _ _ _ _ _ s₁ (mkF m 1 #[.val (.ref a1)] [(.ref a1)])
  obtain ⟨T1, X1, e1, st1⟩ := getF X0 hx hZ hown (host := "") (Or.inl (hw _ (List.mem_of_getElem? (i := 56) rfl))) Via.refl e0 F1 (g := (mkF m 1 #[.val (.ref a1)] [(.ref a1)])) rfl rfl (hb hby d12_1)
  refine own_st st1 ?_
  show own_Ends _ _ _ _ _ _ _ T1 (mkF m 4 #[.val (.ref a1)] [(.ref a2)])
  refine own_st (own_getR X1 hx hZ hown (hw _ (List.mem_of_getElem? (i := 88) rfl)) e1 F2 (g := (mkF m 4 #[.val (.ref a1)] [(.ref a2)])) rfl rfl (hb hby d12_4)) ?_
  show own_Ends _ _ _ _ _ _ _ T1 (mkF m 7 #[.val (.ref a1)] [.null])
  refine own_retA X1 hx Bd.returns rfl rfl rfl (hb hby d12_7) hlk (by decide) (by decide) ?_
  show Q_rm_get12 Z a1 a2 h0 n0 _ T1.heap _
  rw [e1]
  exact ⟨rfl, N0, rfl⟩
theorem d13_0 : decode prog_21_method_9_code 0 = .ok (.aload_n 0, 1) := by decide +kernel
theorem d13_1 : decode prog_21_method_9_code 1 = .ok (.getfield 7, 3) := by decide +kernel
theorem d13_4 : decode prog_21_method_9_code 4 = .ok (.getfield 149, 3) := by decide +kernel
theorem d13_7 : decode prog_21_method_9_code 7 = .ok (.areturn, 1) := by decide +kernel
theorem ef_rm_get13 (m : MethodId) (x0 : Addr) : entryFrame m #[(.ref x0)] 1 = mkF m 0 #[.val (.ref x0)] [] := by first | (simp [entryFrame, mkF, argsToLocals, Value.category]; done) | rfl
def Q_rm_get13 (Z : State) (a1 : Addr) (a2 : Addr) (h0 : Heap) (n0 : Nat) (v : Option Value) (h : Heap) (L : List Loc) : Prop := v = some .null ∧ Fr n0 L ∧ h = h0
set_option maxRecDepth 65536 in
set_option maxHeartbeats 40000000 in
theorem rm_get13 (l : Launch) (Z : State) (a0 : Array Value) (hw : ∀ d ∈ tables_1, d.before a0 Z = true) (ws : List Jvm.Cond) (a1 : Addr) (a2 : Addr) (h0 : Heap) (n0 : Nat) (O0 : Old Z n0 h0) (F1 : Fld Z h0 a1 "com/example/clear_tx/cleartx/TransactionDefinition" "settings" "Lcom/example/clear_tx/cleartx/TransactionDefinition$Settings;" (.ref a2)) (F2 : Fld Z h0 a2 "com/example/clear_tx/cleartx/TransactionDefinition$Settings" "declaredOn" "Ljava/lang/String;" .null) :
    MetFree l (⟨"com/example/clear_tx/cleartx/TransactionDefinition", "declaredOn", "()Ljava/lang/String;"⟩ : MethodName) (head1 (Jvm.Cond.code (⟨"com/example/clear_tx/cleartx/TransactionDefinition", "declaredOn", "()Ljava/lang/String;"⟩ : MethodName) prog_21_method_9_code 1 (some (.object "java/lang/String")) :: ws) ({ frames := 0, cells := 0, slots := 0, locals := 0 } : Room)) (fun a U => a = #[(.ref a1)] ∧ Z.Warmed39 U.vm ∧ U.heap = h0) (fun _ _ _ _ _ => True) (fun _ U o U' => ∃ v L, o = .returned v ∧ Q_rm_get13 Z a1 a2 h0 n0 v U'.heap L ∧ FrameEnd U o U' L ({ frames := 0, cells := 0, slots := 0, locals := 0 } : Room).cells ({ frames := 0, cells := 0, slots := 0, locals := 0 } : Room).slots) := by
  refine MetFree.of_bodySF (plainFor_of_name pn_4) hisR ?_
  intro p e s m args below meth c s₁ Bd hml0 hP hK
  obtain ⟨rfl, hZ, hh⟩ := hP
  have hx := Bd.exec
  have hby := Bd.bytes
  have hml : c.maxLocals = 1 := hml0
  have hown : s.vm.findClass "com/example/clear_tx/cleartx/TransactionDefinition" = some m.cls := findClass_of_methodNamed Bd.named
  have hnm := (name_of_methodNamed Bd.named Bd.method).1
  have hlk := BodyLoose.notSynchronized Bd
  have X0 : Stand p l e ({ frames := 0, cells := 0, slots := 0, locals := 0 } : Room) s m #[(.ref a1)] below meth c s₁ [] 0 0 := Stand.of_body Bd
  have e0 : s₁.heap = h0 := by rw [← hh, Bd.state]; rfl
  have N0 := Fr.nil n0
  show own_Ends p e below s (Q_rm_get13 Z a1 a2 h0 n0) ({ frames := 0, cells := 0, slots := 0, locals := 0 } : Room).cells ({ frames := 0, cells := 0, slots := 0, locals := 0 } : Room).slots s₁ (entryFrame m #[(.ref a1)] 1)
  rw [ef_rm_get13 m a1]
  show own_Ends _ _ _ _ _ _ _ s₁ (mkF m 0 #[.val (.ref a1)] [])
  refine own_st (fun _ kq => XS.aloadN X0.here hx rfl (hb hby d13_0) rfl rfl kq) ?_
  show own_Ends _ _ _ _ _ _ _ s₁ (mkF m 1 #[.val (.ref a1)] [(.ref a1)])
  obtain ⟨T1, X1, e1, st1⟩ := getF X0 hx hZ hown (host := "") (Or.inl (hw _ (List.mem_of_getElem? (i := 56) rfl))) Via.refl e0 F1 (g := (mkF m 1 #[.val (.ref a1)] [(.ref a1)])) rfl rfl (hb hby d13_1)
  refine own_st st1 ?_
  show own_Ends _ _ _ _ _ _ _ T1 (mkF m 4 #[.val (.ref a1)] [(.ref a2)])
  refine own_st (own_getR X1 hx hZ hown (hw _ (List.mem_of_getElem? (i := 95) rfl)) e1 F2 (g := (mkF m 4 #[.val (.ref a1)] [(.ref a2)])) rfl rfl (hb hby d13_4)) ?_
  show own_Ends _ _ _ _ _ _ _ T1 (mkF m 7 #[.val (.ref a1)] [.null])
  refine own_retA X1 hx Bd.returns rfl rfl rfl (hb hby d13_7) hlk (by decide) (by decide) ?_
  show Q_rm_get13 Z a1 a2 h0 n0 _ T1.heap _
  rw [e1]
  exact ⟨rfl, N0, rfl⟩
theorem ef_rm_law (m : MethodId) (x0 : Int32) : entryFrame m #[(.int x0)] maxLocals = mkF m 0 #[.val (.int x0), .unset, .unset, .unset] [] := by first | (simp [entryFrame, mkF, argsToLocals, Value.category, maxLocals]; done) | rfl
def Q_rm_law (Z : State) (p1 : Int32) (r0 : Addr) (rD : Addr) (r3 : Addr) (r5 : Addr) (r6 : Addr) (r4 : Addr) (r2 : Addr) (r1 : Addr) (rL : Addr) (h0 : Heap) (n0 : Nat) (v : Option Value) (h : Heap) (L : List Loc) : Prop := v = some (.int 1) ∧ Fr n0 L
set_option maxRecDepth 65536 in
set_option maxHeartbeats 40000000 in
theorem rm_law (l : Launch) (Z : State) (a0 : Array Value) (hw : ∀ d ∈ tables_1, d.before a0 Z = true) (ws : List Jvm.Cond) (p1 : Int32) (r0 : Addr) (rD : Addr) (r3 : Addr) (r5 : Addr) (r6 : Addr) (r4 : Addr) (r2 : Addr) (r1 : Addr) (rL : Addr) (h0 : Heap) (n0 : Nat) (O0 : Old Z n0 h0) (G : own_W Z r0 rD r3 r5 r6 r4 r2 r1 rL) :
    MetFree l x (head1 (Jvm.Cond.code x code maxLocals ret :: ws) room_1) (fun a U => a = #[(.int p1)] ∧ Z.Warmed39 U.vm ∧ U.heap = h0) (fun _ _ _ _ _ => True) (fun _ U o U' => ∃ v L, o = .returned v ∧ Q_rm_law Z p1 r0 rD r3 r5 r6 r4 r2 r1 rL h0 n0 v U'.heap L ∧ ReturnedEndW U o U' L room_1.cells room_1.slots) := by
  refine MetFree.of_bodySF (plainFor_of_name pn_0) hisR ?_
  intro p e s m args below meth c s₁ Bd hml0 hP hK
  obtain ⟨rfl, hZ, hh⟩ := hP
  have hx := Bd.exec
  have hby := Bd.bytes
  have hml : c.maxLocals = 4 := hml0
  have hown : s.vm.findClass "com/example/clear_tx/cleartx/TransactionDefinitionOfPinLaw" = some m.cls := findClass_of_methodNamed Bd.named
  have hnm := (name_of_methodNamed Bd.named Bd.method).1
  have hlk := BodyLoose.notSynchronized Bd
  have X0 : Stand p l e room_1 s m #[(.int p1)] below meth c s₁ [] 0 0 := Stand.of_body Bd
  have e0 : s₁.heap = h0 := by rw [← hh, Bd.state]; rfl
  have N0 := Fr.nil n0
  show own_EndsW p e below s (Q_rm_law Z p1 r0 rD r3 r5 r6 r4 r2 r1 rL h0 n0) room_1.cells room_1.slots s₁ (entryFrame m #[(.int p1)] maxLocals)
  rw [ef_rm_law m p1]
  have X0 : Stand p l e room_1 (s.setVm s.vm) m #[(.int p1)] below meth c s₁ [] 0 0 := X0
  have hS := (State.WarmedH.refl s).since 0
  have hk : 0 ≤ h0.size := Nat.zero_le _
  have hZ : Z.Warmed39 (s.setVm s.vm).vm := hZ
  have hown : (s.setVm s.vm).vm.findClass "com/example/clear_tx/cleartx/TransactionDefinitionOfPinLaw" = some m.cls := hown
  have G' := G
  obtain ⟨S_0, E_0, S_D, E_D, S_3, E_3, S_5, E_5, S_6, E_6, S_4, E_4, S_2, E_2, S_1, E_1, S_L⟩ := G'
  show own_EndsW _ _ _ _ _ _ _ s₁ (mkF m 0 #[.val (.int p1), .unset, .unset, .unset] [])
  refine own_stW (fun _ kq => XS.iloadN X0.here hx rfl (hb hby at_0) rfl kq) ?_
  show own_EndsW _ _ _ _ _ _ _ s₁ (mkF m 1 #[.val (.int p1), .unset, .unset, .unset] [(.int p1)])
  refine own_stW (X0.ldcInt hx hown (mvT hZ (hw _ (List.mem_of_getElem? (i := 0) rfl))) (g := (mkF m 1 #[.val (.int p1), .unset, .unset, .unset] [(.int p1)])) rfl (hb hby at_1)) ?_
  show own_EndsW _ _ _ _ _ _ _ s₁ (mkF m 3 #[.val (.int p1), .unset, .unset, .unset] [(.int (2147483647 : Int32)), (.int p1)])
  refine own_stW (fun _ kq => XS.iand X0.here hx rfl (hb hby at_3) rfl kq) ?_
  show own_EndsW _ _ _ _ _ _ _ s₁ (mkF m 4 #[.val (.int p1), .unset, .unset, .unset] [(.int (p1 &&& (2147483647 : Int32)))])
  refine own_stW (fun _ kq => XS.bipush X0.here hx rfl (hb hby at_4) kq) ?_
  show own_EndsW _ _ _ _ _ _ _ s₁ (mkF m 6 #[.val (.int p1), .unset, .unset, .unset] [(.int (7 : Int32)), (.int (p1 &&& (2147483647 : Int32)))])
  refine own_stW (fun _ kq => iremM (g := (mkF m 6 #[.val (.int p1), .unset, .unset, .unset] [(.int (7 : Int32)), (.int (p1 &&& (2147483647 : Int32)))])) X0 hx rfl (hb hby at_6) rfl (by decide) kq) ?_
  show own_EndsW _ _ _ _ _ _ _ s₁ (mkF m 7 #[.val (.int p1), .unset, .unset, .unset] [(.int ((p1 &&& (2147483647 : Int32)) % (7 : Int32)))])
  rcases own_idx p1 with ej | ej | ej | ej | ej | ej | ej
  · rw [ej]
    show own_EndsW _ _ _ _ _ _ _ s₁ (mkF m 7 #[.val (.int p1), .unset, .unset, .unset] [(.int (0 : Int32))])
    refine own_stW (fun _ kq => XS.istoreN X0.here hx rfl (hb hby at_7) rfl (l' := #[.val (.int p1), .val (.int (0 : Int32)), .unset, .unset]) rfl kq) ?_
    show own_EndsW _ _ _ _ _ _ _ s₁ (mkF m 8 #[.val (.int p1), .val (.int (0 : Int32)), .unset, .unset] [])
    refine own_stW (fun _ kq => XS.iloadN X0.here hx rfl (hb hby at_8) rfl kq) ?_
    show own_EndsW _ _ _ _ _ _ _ s₁ (mkF m 9 #[.val (.int p1), .val (.int (0 : Int32)), .unset, .unset] [(.int (0 : Int32))])
    obtain ⟨_, _, ⟨T1, L1, k1, n1⟩, -, X1, ⟨Lc1, hQ1, l1, y1, z1⟩, st1⟩ := Jvm.LawKit.callS X0 hx (y := (⟨"com/example/clear_tx/cleartx/TransactionDefinitionOfPinLaw", "pick", "(I)Lcom/example/clear_tx/cleartx/Propagation;"⟩ : MethodName)) hown (mvT hZ (hw _ (List.mem_of_getElem? (i := 1) rfl))) (mvT hZ (hw _ (List.mem_of_getElem? (i := 2) rfl))) (mvT hZ (hw _ (List.mem_of_getElem? (i := 3) rfl))) (mvT hZ (hw _ (List.mem_of_getElem? (i := 4) rfl))) (by decide) (backOf (W := 0) (rm_pick0 l Z a0 hw [] r0 rD r3 r5 r6 r4 r2 r1 rL h0 n0 O0 G) hZ (hw _ (List.mem_of_getElem? (i := 4) rfl)) (hw _ (List.mem_of_getElem? (i := 3) rfl)) (by decide) (by decide)) (g := (mkF m 9 #[.val (.int p1), .val (.int (0 : Int32)), .unset, .unset] [(.int (0 : Int32))])) rfl (by rw [hml]; rfl) (argsL := [(.int (0 : Int32))]) (rest := []) (lenOf pd_0 rfl) rfl (by show 2 * 0 + _ ≤ _; exact Nat.le_of_eq rfl) (hb hby at_9) (fun _ _ => ⟨rfl, e0, (by decide : 0 + 0 ≤ _), (by decide : 0 + 0 ≤ _)⟩)
    dsimp only [Pt.U, Pt.locs, Pt.cells, Pt.slots] at X1 l1 y1 z1 st1 hQ1
    subst l1 y1 z1
    obtain ⟨rfl, N1q, e1⟩ := hQ1
    have N1 := Fr.app N0 N1q
    refine own_stW st1 ?_
    show own_EndsW _ _ _ _ _ _ _ T1 (mkF m 12 #[.val (.int p1), .val (.int (0 : Int32)), .unset, .unset] [(.ref r0)])
    refine own_stW (fun _ kq => XS.astoreN X1.here hx rfl (hb hby at_12) rfl rfl (l' := #[.val (.int p1), .val (.int (0 : Int32)), .val (.ref r0), .unset]) rfl kq) ?_
    show own_EndsW _ _ _ _ _ _ _ T1 (mkF m 13 #[.val (.int p1), .val (.int (0 : Int32)), .val (.ref r0), .unset] [])
    refine own_stW (fun _ kq => XS.aloadN X1.here hx rfl (hb hby at_13) rfl rfl kq) ?_
    show own_EndsW _ _ _ _ _ _ _ T1 (mkF m 14 #[.val (.int p1), .val (.int (0 : Int32)), .val (.ref r0), .unset] [(.ref r0)])
    obtain ⟨_, _, ⟨T2, L2, k2, n2⟩, -, X2, hS2, hgr, ⟨Lc2, hQ2, l2, y2, z2⟩, st2⟩ := Jvm.RoadKit.callSS X1 hx (y := (⟨"com/example/clear_tx/cleartx/TransactionDefinition", "of", "(Lcom/example/clear_tx/cleartx/Propagation;)Lcom/example/clear_tx/cleartx/TransactionDefinition;"⟩ : MethodName)) hown (mvT hZ (hw _ (List.mem_of_getElem? (i := 8) rfl))) (mvT hZ (hw _ (List.mem_of_getElem? (i := 9) rfl))) (mvT hZ (hw _ (List.mem_of_getElem? (i := 10) rfl))) (mvT hZ (hw _ (List.mem_of_getElem? (i := 11) rfl))) (by decide) (backOfS (W := 0) (rm_of l Z a0 hw [] r0 r0 rD r3 r5 r6 r4 r2 r1 rL h0 n0 O0 G) hZ (hw _ (List.mem_of_getElem? (i := 11) rfl)) (hw _ (List.mem_of_getElem? (i := 10) rfl)) (by decide) (by decide)) (g := (mkF m 14 #[.val (.int p1), .val (.int (0 : Int32)), .val (.ref r0), .unset] [(.ref r0)])) rfl (by rw [hml]; rfl) (argsL := [(.ref r0)]) (rest := []) (lenOf pd_1 rfl) rfl (by show 2 * 0 + _ ≤ _; exact Nat.le_of_eq rfl) (hb hby at_14) (fun _ _ => ⟨rfl, e1, (by decide : 0 + 4 ≤ _), (by decide : 0 + 128 ≤ _)⟩)
    dsimp only [Pt.U, Pt.locs, Pt.cells, Pt.slots] at X2 l2 y2 z2 st2 hQ2 hS2 hgr
    subst l2 y2 z2
    have X2 : Stand p l e room_1 (s.setVm T2.vm) m #[(.int p1)] below meth c T2 _ _ _ := X2
    have hS := foldS hS (show _ ≤ T1.heap.size by rw [e1]; exact hk) hS2 hgr
    have hk := Nat.le_refl T2.heap.size
    have hZ : Z.Warmed39 (s.setVm T2.vm).vm := State.Warmed39.trans hZ hS2.1
    have hown : (s.setVm T2.vm).vm.findClass "com/example/clear_tx/cleartx/TransactionDefinitionOfPinLaw" = some m.cls := by rw [show (s.setVm T2.vm).vm = T2.vm from rfl, hS2.1.alike.findClass]; exact hown
    obtain ⟨b2, c2, rfl, N2q, K2, O2, f2_0, f2_1, f2_2, f2_3, f2_4, f2_5, f2_6, f2_7, f2_8⟩ := hQ2
    have N2 := Fr.app N1 N2q
    refine own_trW st2 ?_
    show own_EndsW _ _ _ _ _ _ _ T2 (mkF m 17 #[.val (.int p1), .val (.int (0 : Int32)), .val (.ref r0), .unset] [(.ref b2)])
    refine own_stW (fun _ kq => XS.astoreN X2.here hx rfl (hb hby at_17) rfl rfl (l' := #[.val (.int p1), .val (.int (0 : Int32)), .val (.ref r0), .val (.ref b2)]) rfl kq) ?_
    show own_EndsW _ _ _ _ _ _ _ T2 (mkF m 18 #[.val (.int p1), .val (.int (0 : Int32)), .val (.ref r0), .val (.ref b2)] [])
    refine own_stW (fun _ kq => XS.aloadN X2.here hx rfl (hb hby at_18) rfl rfl kq) ?_
    show own_EndsW _ _ _ _ _ _ _ T2 (mkF m 19 #[.val (.int p1), .val (.int (0 : Int32)), .val (.ref r0), .val (.ref b2)] [(.ref b2)])
    obtain ⟨cq3, kq3, q3a, q3b, q3c⟩ := isOf hZ rfl f2_0
    obtain ⟨_, _, ⟨T3, L3, k3, n3⟩, -, X3, ⟨Lc3, hQ3, l3, y3, z3⟩, st3⟩ := X2.virtualBack hx (y := (⟨"com/example/clear_tx/cleartx/TransactionDefinition", "propagation", "()Lcom/example/clear_tx/cleartx/Propagation;"⟩ : MethodName)) (z := (⟨"com/example/clear_tx/cleartx/TransactionDefinition", "propagation", "()Lcom/example/clear_tx/cleartx/Propagation;"⟩ : MethodName)) hown (mvT hZ (hw _ (List.mem_of_getElem? (i := 58) rfl))) (mvT hZ (hw _ (List.mem_of_getElem? (i := 59) rfl))) (notFace_of_selects (args := #[]) (mvT hZ (hw _ (List.mem_of_getElem? (i := 61) rfl)))) (mvT hZ (hw _ (List.mem_of_getElem? (i := 61) rfl))) (mvT hZ (hw _ (List.mem_of_getElem? (i := 60) rfl))) (by decide) (backOf (W := 0) (rm_get8 l Z a0 hw [] b2 c2 r0 T2.heap n0 O2 f2_1 f2_2) hZ (hw _ (List.mem_of_getElem? (i := 62) rfl)) (hw _ (List.mem_of_getElem? (i := 10) rfl)) (by decide) (by decide)) q3a q3c (g := (mkF m 19 #[.val (.int p1), .val (.int (0 : Int32)), .val (.ref r0), .val (.ref b2)] [(.ref b2)])) rfl (by rw [hml]; rfl) (Steps.refl _) (argsL := []) (rest := []) (lenOf pd_6 rfl) rfl (by show 2 * 0 + _ ≤ _; exact Nat.le_of_eq rfl) (hb hby at_19) (fun _ _ => ⟨rfl, rfl, (by decide : 4 + 0 ≤ _), (by decide : 128 + 0 ≤ _)⟩)
    dsimp only [Pt.U, Pt.locs, Pt.cells, Pt.slots] at X3 l3 y3 z3 st3 hQ3
    subst l3 y3 z3
    obtain ⟨rfl, N3q, e3⟩ := hQ3
    have N3 := Fr.app N2 N3q
    refine own_trW st3 ?_
    show own_EndsW _ _ _ _ _ _ _ T3 (mkF m 22 #[.val (.int p1), .val (.int (0 : Int32)), .val (.ref r0), .val (.ref b2)] [(.ref r0)])
    refine own_stW (fun _ kq => XS.aloadN X3.here hx rfl (hb hby at_22) rfl rfl kq) ?_
    show own_EndsW _ _ _ _ _ _ _ T3 (mkF m 23 #[.val (.int p1), .val (.int (0 : Int32)), .val (.ref r0), .val (.ref b2)] [(.ref r0), (.ref r0)])
    refine own_stW (fun _ kq => Jvm.RoadKit.acmp (g := (mkF m 23 #[.val (.int p1), .val (.int (0 : Int32)), .val (.ref r0), .val (.ref b2)] [(.ref r0), (.ref r0)])) X3 hx rfl rfl rfl (pc0 := 23) (pc' := 26) (same := true) rfl (hb hby at_23) rfl (decide_eq_true rfl) (by decide) (by decide) kq) ?_
    show own_EndsW _ _ _ _ _ _ _ T3 (mkF m 26 #[.val (.int p1), .val (.int (0 : Int32)), .val (.ref r0), .val (.ref b2)] [])
    refine own_stW (fun _ kq => XS.aloadN X3.here hx rfl (hb hby at_26) rfl rfl kq) ?_
    show own_EndsW _ _ _ _ _ _ _ T3 (mkF m 27 #[.val (.int p1), .val (.int (0 : Int32)), .val (.ref r0), .val (.ref b2)] [(.ref b2)])
    obtain ⟨cq4, kq4, q4a, q4b, q4c⟩ := isOf hZ e3 f2_0
    obtain ⟨_, _, ⟨T4, L4, k4, n4⟩, -, X4, ⟨Lc4, hQ4, l4, y4, z4⟩, st4⟩ := X3.virtualBack hx (y := (⟨"com/example/clear_tx/cleartx/TransactionDefinition", "isolation", "()Lcom/example/clear_tx/cleartx/Isolation;"⟩ : MethodName)) (z := (⟨"com/example/clear_tx/cleartx/TransactionDefinition", "isolation", "()Lcom/example/clear_tx/cleartx/Isolation;"⟩ : MethodName)) hown (mvT hZ (hw _ (List.mem_of_getElem? (i := 63) rfl))) (mvT hZ (hw _ (List.mem_of_getElem? (i := 64) rfl))) (notFace_of_selects (args := #[]) (mvT hZ (hw _ (List.mem_of_getElem? (i := 66) rfl)))) (mvT hZ (hw _ (List.mem_of_getElem? (i := 66) rfl))) (mvT hZ (hw _ (List.mem_of_getElem? (i := 65) rfl))) (by decide) (backOf (W := 0) (rm_get9 l Z a0 hw [] b2 c2 rD T2.heap n0 O2 f2_1 f2_3) hZ (hw _ (List.mem_of_getElem? (i := 67) rfl)) (hw _ (List.mem_of_getElem? (i := 10) rfl)) (by decide) (by decide)) q4a q4c (g := (mkF m 27 #[.val (.int p1), .val (.int (0 : Int32)), .val (.ref r0), .val (.ref b2)] [(.ref b2)])) rfl (by rw [hml]; rfl) (Steps.refl _) (argsL := []) (rest := []) (lenOf pd_7 rfl) rfl (by show 2 * 0 + _ ≤ _; exact Nat.le_of_eq rfl) (hb hby at_27) (fun _ _ => ⟨rfl, e3, (by decide : 4 + 0 ≤ _), (by decide : 128 + 0 ≤ _)⟩)
    dsimp only [Pt.U, Pt.locs, Pt.cells, Pt.slots] at X4 l4 y4 z4 st4 hQ4
    subst l4 y4 z4
    obtain ⟨rfl, N4q, e4⟩ := hQ4
    have N4 := Fr.app N3 N4q
    refine own_trW st4 ?_
    show own_EndsW _ _ _ _ _ _ _ T4 (mkF m 30 #[.val (.int p1), .val (.int (0 : Int32)), .val (.ref r0), .val (.ref b2)] [(.ref rD)])
    obtain ⟨T5, X5, e5, st5⟩ := getS2 X4 hx hZ hown (host := "") (Or.inl (hw _ (List.mem_of_getElem? (i := 69) rfl))) Via.refl e4 (S_D.ext O2.2) (g := (mkF m 30 #[.val (.int p1), .val (.int (0 : Int32)), .val (.ref r0), .val (.ref b2)] [(.ref rD)])) rfl (hb hby at_30)
    refine own_stW st5 ?_
    show own_EndsW _ _ _ _ _ _ _ T5 (mkF m 33 #[.val (.int p1), .val (.int (0 : Int32)), .val (.ref r0), .val (.ref b2)] [(.ref rD), (.ref rD)])
    refine own_stW (fun _ kq => Jvm.RoadKit.acmp (g := (mkF m 33 #[.val (.int p1), .val (.int (0 : Int32)), .val (.ref r0), .val (.ref b2)] [(.ref rD), (.ref rD)])) X5 hx rfl rfl rfl (pc0 := 33) (pc' := 36) (same := true) rfl (hb hby at_33) rfl (decide_eq_true rfl) (by decide) (by decide) kq) ?_
    show own_EndsW _ _ _ _ _ _ _ T5 (mkF m 36 #[.val (.int p1), .val (.int (0 : Int32)), .val (.ref r0), .val (.ref b2)] [])
    refine own_stW (fun _ kq => XS.aloadN X5.here hx rfl (hb hby at_36) rfl rfl kq) ?_
    show own_EndsW _ _ _ _ _ _ _ T5 (mkF m 37 #[.val (.int p1), .val (.int (0 : Int32)), .val (.ref r0), .val (.ref b2)] [(.ref b2)])
    obtain ⟨cq6, kq6, q6a, q6b, q6c⟩ := isOf hZ e5 f2_0
    obtain ⟨_, _, ⟨T6, L6, k6, n6⟩, -, X6, ⟨Lc6, hQ6, l6, y6, z6⟩, st6⟩ := X5.virtualBack hx (y := (⟨"com/example/clear_tx/cleartx/TransactionDefinition", "isReadOnly", "()Z"⟩ : MethodName)) (z := (⟨"com/example/clear_tx/cleartx/TransactionDefinition", "isReadOnly", "()Z"⟩ : MethodName)) hown (mvT hZ (hw _ (List.mem_of_getElem? (i := 70) rfl))) (mvT hZ (hw _ (List.mem_of_getElem? (i := 71) rfl))) (notFace_of_selects (args := #[]) (mvT hZ (hw _ (List.mem_of_getElem? (i := 73) rfl)))) (mvT hZ (hw _ (List.mem_of_getElem? (i := 73) rfl))) (mvT hZ (hw _ (List.mem_of_getElem? (i := 72) rfl))) (by decide) (backOf (W := 0) (rm_get10 l Z a0 hw [] b2 c2 T2.heap n0 O2 f2_1 f2_4) hZ (hw _ (List.mem_of_getElem? (i := 74) rfl)) (hw _ (List.mem_of_getElem? (i := 10) rfl)) (by decide) (by decide)) q6a q6c (g := (mkF m 37 #[.val (.int p1), .val (.int (0 : Int32)), .val (.ref r0), .val (.ref b2)] [(.ref b2)])) rfl (by rw [hml]; rfl) (Steps.refl _) (argsL := []) (rest := []) (lenOf pd_8 rfl) rfl (by show 2 * 0 + _ ≤ _; exact Nat.le_of_eq rfl) (hb hby at_37) (fun _ _ => ⟨rfl, e5, (by decide : 4 + 0 ≤ _), (by decide : 128 + 0 ≤ _)⟩)
    dsimp only [Pt.U, Pt.locs, Pt.cells, Pt.slots] at X6 l6 y6 z6 st6 hQ6
    subst l6 y6 z6
    obtain ⟨rfl, N6q, e6⟩ := hQ6
    have N6 := Fr.app N4 N6q
    refine own_trW st6 ?_
    show own_EndsW _ _ _ _ _ _ _ T6 (mkF m 40 #[.val (.int p1), .val (.int (0 : Int32)), .val (.ref r0), .val (.ref b2)] [(.int (0 : Int32))])
    refine own_stW (fun _ kq => XS.ifNo X6.here hx rfl (hb hby at_40) rfl ((if0 _ _).trans (teq (by decide : (0 : Int32) = (0 : Int32))).2) kq) ?_
    show own_EndsW _ _ _ _ _ _ _ T6 (mkF m 43 #[.val (.int p1), .val (.int (0 : Int32)), .val (.ref r0), .val (.ref b2)] [])
    refine own_stW (fun _ kq => XS.aloadN X6.here hx rfl (hb hby at_43) rfl rfl kq) ?_
    show own_EndsW _ _ _ _ _ _ _ T6 (mkF m 44 #[.val (.int p1), .val (.int (0 : Int32)), .val (.ref r0), .val (.ref b2)] [(.ref b2)])
    obtain ⟨cq7, kq7, q7a, q7b, q7c⟩ := isOf hZ e6 f2_0
    obtain ⟨_, _, ⟨T7, L7, k7, n7⟩, -, X7, ⟨Lc7, hQ7, l7, y7, z7⟩, st7⟩ := X6.virtualBack hx (y := (⟨"com/example/clear_tx/cleartx/TransactionDefinition", "timeout", "()I"⟩ : MethodName)) (z := (⟨"com/example/clear_tx/cleartx/TransactionDefinition", "timeout", "()I"⟩ : MethodName)) hown (mvT hZ (hw _ (List.mem_of_getElem? (i := 77) rfl))) (mvT hZ (hw _ (List.mem_of_getElem? (i := 78) rfl))) (notFace_of_selects (args := #[]) (mvT hZ (hw _ (List.mem_of_getElem? (i := 80) rfl)))) (mvT hZ (hw _ (List.mem_of_getElem? (i := 80) rfl))) (mvT hZ (hw _ (List.mem_of_getElem? (i := 79) rfl))) (by decide) (backOf (W := 0) (rm_get11 l Z a0 hw [] b2 c2 T2.heap n0 O2 f2_1 f2_5) hZ (hw _ (List.mem_of_getElem? (i := 81) rfl)) (hw _ (List.mem_of_getElem? (i := 10) rfl)) (by decide) (by decide)) q7a q7c (g := (mkF m 44 #[.val (.int p1), .val (.int (0 : Int32)), .val (.ref r0), .val (.ref b2)] [(.ref b2)])) rfl (by rw [hml]; rfl) (Steps.refl _) (argsL := []) (rest := []) (lenOf pd_9 rfl) rfl (by show 2 * 0 + _ ≤ _; exact Nat.le_of_eq rfl) (hb hby at_44) (fun _ _ => ⟨rfl, e6, (by decide : 4 + 0 ≤ _), (by decide : 128 + 0 ≤ _)⟩)
    dsimp only [Pt.U, Pt.locs, Pt.cells, Pt.slots] at X7 l7 y7 z7 st7 hQ7
    subst l7 y7 z7
    obtain ⟨rfl, N7q, e7⟩ := hQ7
    have N7 := Fr.app N6 N7q
    refine own_trW st7 ?_
    show own_EndsW _ _ _ _ _ _ _ T7 (mkF m 47 #[.val (.int p1), .val (.int (0 : Int32)), .val (.ref r0), .val (.ref b2)] [(.int (-1 : Int32))])
    refine own_stW (fun _ kq => XS.iconst X7.here hx rfl (hb hby at_47) kq) ?_
    show own_EndsW _ _ _ _ _ _ _ T7 (mkF m 48 #[.val (.int p1), .val (.int (0 : Int32)), .val (.ref r0), .val (.ref b2)] [(.int (-1 : Int32)), (.int (-1 : Int32))])
    refine own_stW (fun _ kq => XS.icmpNo X7.here hx rfl (hb hby at_48) rfl (teq (by decide : (-1 : Int32) = (-1 : Int32))).2 kq) ?_
    show own_EndsW _ _ _ _ _ _ _ T7 (mkF m 51 #[.val (.int p1), .val (.int (0 : Int32)), .val (.ref r0), .val (.ref b2)] [])
    refine own_stW (fun _ kq => XS.aloadN X7.here hx rfl (hb hby at_51) rfl rfl kq) ?_
    show own_EndsW _ _ _ _ _ _ _ T7 (mkF m 52 #[.val (.int p1), .val (.int (0 : Int32)), .val (.ref r0), .val (.ref b2)] [(.ref b2)])
    obtain ⟨cq8, kq8, q8a, q8b, q8c⟩ := isOf hZ e7 f2_0
    obtain ⟨_, _, ⟨T8, L8, k8, n8⟩, -, X8, ⟨Lc8, hQ8, l8, y8, z8⟩, st8⟩ := X7.virtualBack hx (y := (⟨"com/example/clear_tx/cleartx/TransactionDefinition", "name", "()Ljava/lang/String;"⟩ : MethodName)) (z := (⟨"com/example/clear_tx/cleartx/TransactionDefinition", "name", "()Ljava/lang/String;"⟩ : MethodName)) hown (mvT hZ (hw _ (List.mem_of_getElem? (i := 83) rfl))) (mvT hZ (hw _ (List.mem_of_getElem? (i := 84) rfl))) (notFace_of_selects (args := #[]) (mvT hZ (hw _ (List.mem_of_getElem? (i := 86) rfl)))) (mvT hZ (hw _ (List.mem_of_getElem? (i := 86) rfl))) (mvT hZ (hw _ (List.mem_of_getElem? (i := 85) rfl))) (by decide) (backOf (W := 0) (rm_get12 l Z a0 hw [] b2 c2 T2.heap n0 O2 f2_1 f2_6) hZ (hw _ (List.mem_of_getElem? (i := 87) rfl)) (hw _ (List.mem_of_getElem? (i := 10) rfl)) (by decide) (by decide)) q8a q8c (g := (mkF m 52 #[.val (.int p1), .val (.int (0 : Int32)), .val (.ref r0), .val (.ref b2)] [(.ref b2)])) rfl (by rw [hml]; rfl) (Steps.refl _) (argsL := []) (rest := []) (lenOf pd_10 rfl) rfl (by show 2 * 0 + _ ≤ _; exact Nat.le_of_eq rfl) (hb hby at_52) (fun _ _ => ⟨rfl, e7, (by decide : 4 + 0 ≤ _), (by decide : 128 + 0 ≤ _)⟩)
    dsimp only [Pt.U, Pt.locs, Pt.cells, Pt.slots] at X8 l8 y8 z8 st8 hQ8
    subst l8 y8 z8
    obtain ⟨rfl, N8q, e8⟩ := hQ8
    have N8 := Fr.app N7 N8q
    refine own_trW st8 ?_
    show own_EndsW _ _ _ _ _ _ _ T8 (mkF m 55 #[.val (.int p1), .val (.int (0 : Int32)), .val (.ref r0), .val (.ref b2)] [.null])
    refine own_stW (fun _ kq => XS.ifnonnullNo X8.here hx rfl (hb hby at_55) rfl kq) ?_
    show own_EndsW _ _ _ _ _ _ _ T8 (mkF m 58 #[.val (.int p1), .val (.int (0 : Int32)), .val (.ref r0), .val (.ref b2)] [])
    refine own_stW (fun _ kq => XS.aloadN X8.here hx rfl (hb hby at_58) rfl rfl kq) ?_
    show own_EndsW _ _ _ _ _ _ _ T8 (mkF m 59 #[.val (.int p1), .val (.int (0 : Int32)), .val (.ref r0), .val (.ref b2)] [(.ref b2)])
    obtain ⟨cq9, kq9, q9a, q9b, q9c⟩ := isOf hZ e8 f2_0
    obtain ⟨_, _, ⟨T9, L9, k9, n9⟩, -, X9, ⟨Lc9, hQ9, l9, y9, z9⟩, st9⟩ := X8.virtualBack hx (y := (⟨"com/example/clear_tx/cleartx/TransactionDefinition", "declaredOn", "()Ljava/lang/String;"⟩ : MethodName)) (z := (⟨"com/example/clear_tx/cleartx/TransactionDefinition", "declaredOn", "()Ljava/lang/String;"⟩ : MethodName)) hown (mvT hZ (hw _ (List.mem_of_getElem? (i := 90) rfl))) (mvT hZ (hw _ (List.mem_of_getElem? (i := 91) rfl))) (notFace_of_selects (args := #[]) (mvT hZ (hw _ (List.mem_of_getElem? (i := 93) rfl)))) (mvT hZ (hw _ (List.mem_of_getElem? (i := 93) rfl))) (mvT hZ (hw _ (List.mem_of_getElem? (i := 92) rfl))) (by decide) (backOf (W := 0) (rm_get13 l Z a0 hw [] b2 c2 T2.heap n0 O2 f2_1 f2_8) hZ (hw _ (List.mem_of_getElem? (i := 94) rfl)) (hw _ (List.mem_of_getElem? (i := 10) rfl)) (by decide) (by decide)) q9a q9c (g := (mkF m 59 #[.val (.int p1), .val (.int (0 : Int32)), .val (.ref r0), .val (.ref b2)] [(.ref b2)])) rfl (by rw [hml]; rfl) (Steps.refl _) (argsL := []) (rest := []) (lenOf pd_10 rfl) rfl (by show 2 * 0 + _ ≤ _; exact Nat.le_of_eq rfl) (hb hby at_59) (fun _ _ => ⟨rfl, e8, (by decide : 4 + 0 ≤ _), (by decide : 128 + 0 ≤ _)⟩)
    dsimp only [Pt.U, Pt.locs, Pt.cells, Pt.slots] at X9 l9 y9 z9 st9 hQ9
    subst l9 y9 z9
    obtain ⟨rfl, N9q, e9⟩ := hQ9
    have N9 := Fr.app N8 N9q
    refine own_trW st9 ?_
    show own_EndsW _ _ _ _ _ _ _ T9 (mkF m 62 #[.val (.int p1), .val (.int (0 : Int32)), .val (.ref r0), .val (.ref b2)] [.null])
    refine own_stW (fun _ kq => XS.ifnonnullNo X9.here hx rfl (hb hby at_62) rfl kq) ?_
    show own_EndsW _ _ _ _ _ _ _ T9 (mkF m 65 #[.val (.int p1), .val (.int (0 : Int32)), .val (.ref r0), .val (.ref b2)] [])
    refine own_stW (fun _ kq => XS.iconst X9.here hx rfl (hb hby at_65) kq) ?_
    show own_EndsW _ _ _ _ _ _ _ T9 (mkF m 66 #[.val (.int p1), .val (.int (0 : Int32)), .val (.ref r0), .val (.ref b2)] [(.int (1 : Int32))])
    refine own_stW (fun _ kq => XS.goto X9.here hx rfl (pc0 := 66) (pc' := 70) rfl (hb hby at_66) (by decide) (by decide) kq) ?_
    show own_EndsW _ _ _ _ _ _ _ T9 (mkF m 70 #[.val (.int p1), .val (.int (0 : Int32)), .val (.ref r0), .val (.ref b2)] [(.int (1 : Int32))])
    refine own_retNW X9 hS (by rw [e9]; exact hk) hx (t := .boolean) Bd.returns (by simp) (hb hby at_70) hlk (by decide) (by decide) (w := (1 : Int32)) (by decide) ?_
    show Q_rm_law Z p1 r0 rD r3 r5 r6 r4 r2 r1 rL h0 n0 _ T9.heap _
    rw [e9]
    exact ⟨rfl, N9⟩
  · rw [ej]
    show own_EndsW _ _ _ _ _ _ _ s₁ (mkF m 7 #[.val (.int p1), .unset, .unset, .unset] [(.int (1 : Int32))])
    refine own_stW (fun _ kq => XS.istoreN X0.here hx rfl (hb hby at_7) rfl (l' := #[.val (.int p1), .val (.int (1 : Int32)), .unset, .unset]) rfl kq) ?_
    show own_EndsW _ _ _ _ _ _ _ s₁ (mkF m 8 #[.val (.int p1), .val (.int (1 : Int32)), .unset, .unset] [])
    refine own_stW (fun _ kq => XS.iloadN X0.here hx rfl (hb hby at_8) rfl kq) ?_
    show own_EndsW _ _ _ _ _ _ _ s₁ (mkF m 9 #[.val (.int p1), .val (.int (1 : Int32)), .unset, .unset] [(.int (1 : Int32))])
    obtain ⟨_, _, ⟨T10, L10, k10, n10⟩, -, X10, ⟨Lc10, hQ10, l10, y10, z10⟩, st10⟩ := Jvm.LawKit.callS X0 hx (y := (⟨"com/example/clear_tx/cleartx/TransactionDefinitionOfPinLaw", "pick", "(I)Lcom/example/clear_tx/cleartx/Propagation;"⟩ : MethodName)) hown (mvT hZ (hw _ (List.mem_of_getElem? (i := 1) rfl))) (mvT hZ (hw _ (List.mem_of_getElem? (i := 2) rfl))) (mvT hZ (hw _ (List.mem_of_getElem? (i := 3) rfl))) (mvT hZ (hw _ (List.mem_of_getElem? (i := 4) rfl))) (by decide) (backOf (W := 0) (rm_pick1 l Z a0 hw [] r0 rD r3 r5 r6 r4 r2 r1 rL h0 n0 O0 G) hZ (hw _ (List.mem_of_getElem? (i := 4) rfl)) (hw _ (List.mem_of_getElem? (i := 3) rfl)) (by decide) (by decide)) (g := (mkF m 9 #[.val (.int p1), .val (.int (1 : Int32)), .unset, .unset] [(.int (1 : Int32))])) rfl (by rw [hml]; rfl) (argsL := [(.int (1 : Int32))]) (rest := []) (lenOf pd_0 rfl) rfl (by show 2 * 0 + _ ≤ _; exact Nat.le_of_eq rfl) (hb hby at_9) (fun _ _ => ⟨rfl, e0, (by decide : 0 + 0 ≤ _), (by decide : 0 + 0 ≤ _)⟩)
    dsimp only [Pt.U, Pt.locs, Pt.cells, Pt.slots] at X10 l10 y10 z10 st10 hQ10
    subst l10 y10 z10
    obtain ⟨rfl, N10q, e10⟩ := hQ10
    have N10 := Fr.app N0 N10q
    refine own_stW st10 ?_
    show own_EndsW _ _ _ _ _ _ _ T10 (mkF m 12 #[.val (.int p1), .val (.int (1 : Int32)), .unset, .unset] [(.ref r1)])
    refine own_stW (fun _ kq => XS.astoreN X10.here hx rfl (hb hby at_12) rfl rfl (l' := #[.val (.int p1), .val (.int (1 : Int32)), .val (.ref r1), .unset]) rfl kq) ?_
    show own_EndsW _ _ _ _ _ _ _ T10 (mkF m 13 #[.val (.int p1), .val (.int (1 : Int32)), .val (.ref r1), .unset] [])
    refine own_stW (fun _ kq => XS.aloadN X10.here hx rfl (hb hby at_13) rfl rfl kq) ?_
    show own_EndsW _ _ _ _ _ _ _ T10 (mkF m 14 #[.val (.int p1), .val (.int (1 : Int32)), .val (.ref r1), .unset] [(.ref r1)])
    obtain ⟨_, _, ⟨T11, L11, k11, n11⟩, -, X11, hS2, hgr, ⟨Lc11, hQ11, l11, y11, z11⟩, st11⟩ := Jvm.RoadKit.callSS X10 hx (y := (⟨"com/example/clear_tx/cleartx/TransactionDefinition", "of", "(Lcom/example/clear_tx/cleartx/Propagation;)Lcom/example/clear_tx/cleartx/TransactionDefinition;"⟩ : MethodName)) hown (mvT hZ (hw _ (List.mem_of_getElem? (i := 8) rfl))) (mvT hZ (hw _ (List.mem_of_getElem? (i := 9) rfl))) (mvT hZ (hw _ (List.mem_of_getElem? (i := 10) rfl))) (mvT hZ (hw _ (List.mem_of_getElem? (i := 11) rfl))) (by decide) (backOfS (W := 0) (rm_of l Z a0 hw [] r1 r0 rD r3 r5 r6 r4 r2 r1 rL h0 n0 O0 G) hZ (hw _ (List.mem_of_getElem? (i := 11) rfl)) (hw _ (List.mem_of_getElem? (i := 10) rfl)) (by decide) (by decide)) (g := (mkF m 14 #[.val (.int p1), .val (.int (1 : Int32)), .val (.ref r1), .unset] [(.ref r1)])) rfl (by rw [hml]; rfl) (argsL := [(.ref r1)]) (rest := []) (lenOf pd_1 rfl) rfl (by show 2 * 0 + _ ≤ _; exact Nat.le_of_eq rfl) (hb hby at_14) (fun _ _ => ⟨rfl, e10, (by decide : 0 + 4 ≤ _), (by decide : 0 + 128 ≤ _)⟩)
    dsimp only [Pt.U, Pt.locs, Pt.cells, Pt.slots] at X11 l11 y11 z11 st11 hQ11 hS2 hgr
    subst l11 y11 z11
    have X11 : Stand p l e room_1 (s.setVm T11.vm) m #[(.int p1)] below meth c T11 _ _ _ := X11
    have hS := foldS hS (show _ ≤ T10.heap.size by rw [e10]; exact hk) hS2 hgr
    have hk := Nat.le_refl T11.heap.size
    have hZ : Z.Warmed39 (s.setVm T11.vm).vm := State.Warmed39.trans hZ hS2.1
    have hown : (s.setVm T11.vm).vm.findClass "com/example/clear_tx/cleartx/TransactionDefinitionOfPinLaw" = some m.cls := by rw [show (s.setVm T11.vm).vm = T11.vm from rfl, hS2.1.alike.findClass]; exact hown
    obtain ⟨b11, c11, rfl, N11q, K11, O11, f11_0, f11_1, f11_2, f11_3, f11_4, f11_5, f11_6, f11_7, f11_8⟩ := hQ11
    have N11 := Fr.app N10 N11q
    refine own_trW st11 ?_
    show own_EndsW _ _ _ _ _ _ _ T11 (mkF m 17 #[.val (.int p1), .val (.int (1 : Int32)), .val (.ref r1), .unset] [(.ref b11)])
    refine own_stW (fun _ kq => XS.astoreN X11.here hx rfl (hb hby at_17) rfl rfl (l' := #[.val (.int p1), .val (.int (1 : Int32)), .val (.ref r1), .val (.ref b11)]) rfl kq) ?_
    show own_EndsW _ _ _ _ _ _ _ T11 (mkF m 18 #[.val (.int p1), .val (.int (1 : Int32)), .val (.ref r1), .val (.ref b11)] [])
    refine own_stW (fun _ kq => XS.aloadN X11.here hx rfl (hb hby at_18) rfl rfl kq) ?_
    show own_EndsW _ _ _ _ _ _ _ T11 (mkF m 19 #[.val (.int p1), .val (.int (1 : Int32)), .val (.ref r1), .val (.ref b11)] [(.ref b11)])
    obtain ⟨cq12, kq12, q12a, q12b, q12c⟩ := isOf hZ rfl f11_0
    obtain ⟨_, _, ⟨T12, L12, k12, n12⟩, -, X12, ⟨Lc12, hQ12, l12, y12, z12⟩, st12⟩ := X11.virtualBack hx (y := (⟨"com/example/clear_tx/cleartx/TransactionDefinition", "propagation", "()Lcom/example/clear_tx/cleartx/Propagation;"⟩ : MethodName)) (z := (⟨"com/example/clear_tx/cleartx/TransactionDefinition", "propagation", "()Lcom/example/clear_tx/cleartx/Propagation;"⟩ : MethodName)) hown (mvT hZ (hw _ (List.mem_of_getElem? (i := 58) rfl))) (mvT hZ (hw _ (List.mem_of_getElem? (i := 59) rfl))) (notFace_of_selects (args := #[]) (mvT hZ (hw _ (List.mem_of_getElem? (i := 61) rfl)))) (mvT hZ (hw _ (List.mem_of_getElem? (i := 61) rfl))) (mvT hZ (hw _ (List.mem_of_getElem? (i := 60) rfl))) (by decide) (backOf (W := 0) (rm_get8 l Z a0 hw [] b11 c11 r1 T11.heap n0 O11 f11_1 f11_2) hZ (hw _ (List.mem_of_getElem? (i := 62) rfl)) (hw _ (List.mem_of_getElem? (i := 10) rfl)) (by decide) (by decide)) q12a q12c (g := (mkF m 19 #[.val (.int p1), .val (.int (1 : Int32)), .val (.ref r1), .val (.ref b11)] [(.ref b11)])) rfl (by rw [hml]; rfl) (Steps.refl _) (argsL := []) (rest := []) (lenOf pd_6 rfl) rfl (by show 2 * 0 + _ ≤ _; exact Nat.le_of_eq rfl) (hb hby at_19) (fun _ _ => ⟨rfl, rfl, (by decide : 4 + 0 ≤ _), (by decide : 128 + 0 ≤ _)⟩)
    dsimp only [Pt.U, Pt.locs, Pt.cells, Pt.slots] at X12 l12 y12 z12 st12 hQ12
    subst l12 y12 z12
    obtain ⟨rfl, N12q, e12⟩ := hQ12
    have N12 := Fr.app N11 N12q
    refine own_trW st12 ?_
    show own_EndsW _ _ _ _ _ _ _ T12 (mkF m 22 #[.val (.int p1), .val (.int (1 : Int32)), .val (.ref r1), .val (.ref b11)] [(.ref r1)])
    refine own_stW (fun _ kq => XS.aloadN X12.here hx rfl (hb hby at_22) rfl rfl kq) ?_
    show own_EndsW _ _ _ _ _ _ _ T12 (mkF m 23 #[.val (.int p1), .val (.int (1 : Int32)), .val (.ref r1), .val (.ref b11)] [(.ref r1), (.ref r1)])
    refine own_stW (fun _ kq => Jvm.RoadKit.acmp (g := (mkF m 23 #[.val (.int p1), .val (.int (1 : Int32)), .val (.ref r1), .val (.ref b11)] [(.ref r1), (.ref r1)])) X12 hx rfl rfl rfl (pc0 := 23) (pc' := 26) (same := true) rfl (hb hby at_23) rfl (decide_eq_true rfl) (by decide) (by decide) kq) ?_
    show own_EndsW _ _ _ _ _ _ _ T12 (mkF m 26 #[.val (.int p1), .val (.int (1 : Int32)), .val (.ref r1), .val (.ref b11)] [])
    refine own_stW (fun _ kq => XS.aloadN X12.here hx rfl (hb hby at_26) rfl rfl kq) ?_
    show own_EndsW _ _ _ _ _ _ _ T12 (mkF m 27 #[.val (.int p1), .val (.int (1 : Int32)), .val (.ref r1), .val (.ref b11)] [(.ref b11)])
    obtain ⟨cq13, kq13, q13a, q13b, q13c⟩ := isOf hZ e12 f11_0
    obtain ⟨_, _, ⟨T13, L13, k13, n13⟩, -, X13, ⟨Lc13, hQ13, l13, y13, z13⟩, st13⟩ := X12.virtualBack hx (y := (⟨"com/example/clear_tx/cleartx/TransactionDefinition", "isolation", "()Lcom/example/clear_tx/cleartx/Isolation;"⟩ : MethodName)) (z := (⟨"com/example/clear_tx/cleartx/TransactionDefinition", "isolation", "()Lcom/example/clear_tx/cleartx/Isolation;"⟩ : MethodName)) hown (mvT hZ (hw _ (List.mem_of_getElem? (i := 63) rfl))) (mvT hZ (hw _ (List.mem_of_getElem? (i := 64) rfl))) (notFace_of_selects (args := #[]) (mvT hZ (hw _ (List.mem_of_getElem? (i := 66) rfl)))) (mvT hZ (hw _ (List.mem_of_getElem? (i := 66) rfl))) (mvT hZ (hw _ (List.mem_of_getElem? (i := 65) rfl))) (by decide) (backOf (W := 0) (rm_get9 l Z a0 hw [] b11 c11 rD T11.heap n0 O11 f11_1 f11_3) hZ (hw _ (List.mem_of_getElem? (i := 67) rfl)) (hw _ (List.mem_of_getElem? (i := 10) rfl)) (by decide) (by decide)) q13a q13c (g := (mkF m 27 #[.val (.int p1), .val (.int (1 : Int32)), .val (.ref r1), .val (.ref b11)] [(.ref b11)])) rfl (by rw [hml]; rfl) (Steps.refl _) (argsL := []) (rest := []) (lenOf pd_7 rfl) rfl (by show 2 * 0 + _ ≤ _; exact Nat.le_of_eq rfl) (hb hby at_27) (fun _ _ => ⟨rfl, e12, (by decide : 4 + 0 ≤ _), (by decide : 128 + 0 ≤ _)⟩)
    dsimp only [Pt.U, Pt.locs, Pt.cells, Pt.slots] at X13 l13 y13 z13 st13 hQ13
    subst l13 y13 z13
    obtain ⟨rfl, N13q, e13⟩ := hQ13
    have N13 := Fr.app N12 N13q
    refine own_trW st13 ?_
    show own_EndsW _ _ _ _ _ _ _ T13 (mkF m 30 #[.val (.int p1), .val (.int (1 : Int32)), .val (.ref r1), .val (.ref b11)] [(.ref rD)])
    obtain ⟨T14, X14, e14, st14⟩ := getS2 X13 hx hZ hown (host := "") (Or.inl (hw _ (List.mem_of_getElem? (i := 69) rfl))) Via.refl e13 (S_D.ext O11.2) (g := (mkF m 30 #[.val (.int p1), .val (.int (1 : Int32)), .val (.ref r1), .val (.ref b11)] [(.ref rD)])) rfl (hb hby at_30)
    refine own_stW st14 ?_
    show own_EndsW _ _ _ _ _ _ _ T14 (mkF m 33 #[.val (.int p1), .val (.int (1 : Int32)), .val (.ref r1), .val (.ref b11)] [(.ref rD), (.ref rD)])
    refine own_stW (fun _ kq => Jvm.RoadKit.acmp (g := (mkF m 33 #[.val (.int p1), .val (.int (1 : Int32)), .val (.ref r1), .val (.ref b11)] [(.ref rD), (.ref rD)])) X14 hx rfl rfl rfl (pc0 := 33) (pc' := 36) (same := true) rfl (hb hby at_33) rfl (decide_eq_true rfl) (by decide) (by decide) kq) ?_
    show own_EndsW _ _ _ _ _ _ _ T14 (mkF m 36 #[.val (.int p1), .val (.int (1 : Int32)), .val (.ref r1), .val (.ref b11)] [])
    refine own_stW (fun _ kq => XS.aloadN X14.here hx rfl (hb hby at_36) rfl rfl kq) ?_
    show own_EndsW _ _ _ _ _ _ _ T14 (mkF m 37 #[.val (.int p1), .val (.int (1 : Int32)), .val (.ref r1), .val (.ref b11)] [(.ref b11)])
    obtain ⟨cq15, kq15, q15a, q15b, q15c⟩ := isOf hZ e14 f11_0
    obtain ⟨_, _, ⟨T15, L15, k15, n15⟩, -, X15, ⟨Lc15, hQ15, l15, y15, z15⟩, st15⟩ := X14.virtualBack hx (y := (⟨"com/example/clear_tx/cleartx/TransactionDefinition", "isReadOnly", "()Z"⟩ : MethodName)) (z := (⟨"com/example/clear_tx/cleartx/TransactionDefinition", "isReadOnly", "()Z"⟩ : MethodName)) hown (mvT hZ (hw _ (List.mem_of_getElem? (i := 70) rfl))) (mvT hZ (hw _ (List.mem_of_getElem? (i := 71) rfl))) (notFace_of_selects (args := #[]) (mvT hZ (hw _ (List.mem_of_getElem? (i := 73) rfl)))) (mvT hZ (hw _ (List.mem_of_getElem? (i := 73) rfl))) (mvT hZ (hw _ (List.mem_of_getElem? (i := 72) rfl))) (by decide) (backOf (W := 0) (rm_get10 l Z a0 hw [] b11 c11 T11.heap n0 O11 f11_1 f11_4) hZ (hw _ (List.mem_of_getElem? (i := 74) rfl)) (hw _ (List.mem_of_getElem? (i := 10) rfl)) (by decide) (by decide)) q15a q15c (g := (mkF m 37 #[.val (.int p1), .val (.int (1 : Int32)), .val (.ref r1), .val (.ref b11)] [(.ref b11)])) rfl (by rw [hml]; rfl) (Steps.refl _) (argsL := []) (rest := []) (lenOf pd_8 rfl) rfl (by show 2 * 0 + _ ≤ _; exact Nat.le_of_eq rfl) (hb hby at_37) (fun _ _ => ⟨rfl, e14, (by decide : 4 + 0 ≤ _), (by decide : 128 + 0 ≤ _)⟩)
    dsimp only [Pt.U, Pt.locs, Pt.cells, Pt.slots] at X15 l15 y15 z15 st15 hQ15
    subst l15 y15 z15
    obtain ⟨rfl, N15q, e15⟩ := hQ15
    have N15 := Fr.app N13 N15q
    refine own_trW st15 ?_
    show own_EndsW _ _ _ _ _ _ _ T15 (mkF m 40 #[.val (.int p1), .val (.int (1 : Int32)), .val (.ref r1), .val (.ref b11)] [(.int (0 : Int32))])
    refine own_stW (fun _ kq => XS.ifNo X15.here hx rfl (hb hby at_40) rfl ((if0 _ _).trans (teq (by decide : (0 : Int32) = (0 : Int32))).2) kq) ?_
    show own_EndsW _ _ _ _ _ _ _ T15 (mkF m 43 #[.val (.int p1), .val (.int (1 : Int32)), .val (.ref r1), .val (.ref b11)] [])
    refine own_stW (fun _ kq => XS.aloadN X15.here hx rfl (hb hby at_43) rfl rfl kq) ?_
    show own_EndsW _ _ _ _ _ _ _ T15 (mkF m 44 #[.val (.int p1), .val (.int (1 : Int32)), .val (.ref r1), .val (.ref b11)] [(.ref b11)])
    obtain ⟨cq16, kq16, q16a, q16b, q16c⟩ := isOf hZ e15 f11_0
    obtain ⟨_, _, ⟨T16, L16, k16, n16⟩, -, X16, ⟨Lc16, hQ16, l16, y16, z16⟩, st16⟩ := X15.virtualBack hx (y := (⟨"com/example/clear_tx/cleartx/TransactionDefinition", "timeout", "()I"⟩ : MethodName)) (z := (⟨"com/example/clear_tx/cleartx/TransactionDefinition", "timeout", "()I"⟩ : MethodName)) hown (mvT hZ (hw _ (List.mem_of_getElem? (i := 77) rfl))) (mvT hZ (hw _ (List.mem_of_getElem? (i := 78) rfl))) (notFace_of_selects (args := #[]) (mvT hZ (hw _ (List.mem_of_getElem? (i := 80) rfl)))) (mvT hZ (hw _ (List.mem_of_getElem? (i := 80) rfl))) (mvT hZ (hw _ (List.mem_of_getElem? (i := 79) rfl))) (by decide) (backOf (W := 0) (rm_get11 l Z a0 hw [] b11 c11 T11.heap n0 O11 f11_1 f11_5) hZ (hw _ (List.mem_of_getElem? (i := 81) rfl)) (hw _ (List.mem_of_getElem? (i := 10) rfl)) (by decide) (by decide)) q16a q16c (g := (mkF m 44 #[.val (.int p1), .val (.int (1 : Int32)), .val (.ref r1), .val (.ref b11)] [(.ref b11)])) rfl (by rw [hml]; rfl) (Steps.refl _) (argsL := []) (rest := []) (lenOf pd_9 rfl) rfl (by show 2 * 0 + _ ≤ _; exact Nat.le_of_eq rfl) (hb hby at_44) (fun _ _ => ⟨rfl, e15, (by decide : 4 + 0 ≤ _), (by decide : 128 + 0 ≤ _)⟩)
    dsimp only [Pt.U, Pt.locs, Pt.cells, Pt.slots] at X16 l16 y16 z16 st16 hQ16
    subst l16 y16 z16
    obtain ⟨rfl, N16q, e16⟩ := hQ16
    have N16 := Fr.app N15 N16q
    refine own_trW st16 ?_
    show own_EndsW _ _ _ _ _ _ _ T16 (mkF m 47 #[.val (.int p1), .val (.int (1 : Int32)), .val (.ref r1), .val (.ref b11)] [(.int (-1 : Int32))])
    refine own_stW (fun _ kq => XS.iconst X16.here hx rfl (hb hby at_47) kq) ?_
    show own_EndsW _ _ _ _ _ _ _ T16 (mkF m 48 #[.val (.int p1), .val (.int (1 : Int32)), .val (.ref r1), .val (.ref b11)] [(.int (-1 : Int32)), (.int (-1 : Int32))])
    refine own_stW (fun _ kq => XS.icmpNo X16.here hx rfl (hb hby at_48) rfl (teq (by decide : (-1 : Int32) = (-1 : Int32))).2 kq) ?_
    show own_EndsW _ _ _ _ _ _ _ T16 (mkF m 51 #[.val (.int p1), .val (.int (1 : Int32)), .val (.ref r1), .val (.ref b11)] [])
    refine own_stW (fun _ kq => XS.aloadN X16.here hx rfl (hb hby at_51) rfl rfl kq) ?_
    show own_EndsW _ _ _ _ _ _ _ T16 (mkF m 52 #[.val (.int p1), .val (.int (1 : Int32)), .val (.ref r1), .val (.ref b11)] [(.ref b11)])
    obtain ⟨cq17, kq17, q17a, q17b, q17c⟩ := isOf hZ e16 f11_0
    obtain ⟨_, _, ⟨T17, L17, k17, n17⟩, -, X17, ⟨Lc17, hQ17, l17, y17, z17⟩, st17⟩ := X16.virtualBack hx (y := (⟨"com/example/clear_tx/cleartx/TransactionDefinition", "name", "()Ljava/lang/String;"⟩ : MethodName)) (z := (⟨"com/example/clear_tx/cleartx/TransactionDefinition", "name", "()Ljava/lang/String;"⟩ : MethodName)) hown (mvT hZ (hw _ (List.mem_of_getElem? (i := 83) rfl))) (mvT hZ (hw _ (List.mem_of_getElem? (i := 84) rfl))) (notFace_of_selects (args := #[]) (mvT hZ (hw _ (List.mem_of_getElem? (i := 86) rfl)))) (mvT hZ (hw _ (List.mem_of_getElem? (i := 86) rfl))) (mvT hZ (hw _ (List.mem_of_getElem? (i := 85) rfl))) (by decide) (backOf (W := 0) (rm_get12 l Z a0 hw [] b11 c11 T11.heap n0 O11 f11_1 f11_6) hZ (hw _ (List.mem_of_getElem? (i := 87) rfl)) (hw _ (List.mem_of_getElem? (i := 10) rfl)) (by decide) (by decide)) q17a q17c (g := (mkF m 52 #[.val (.int p1), .val (.int (1 : Int32)), .val (.ref r1), .val (.ref b11)] [(.ref b11)])) rfl (by rw [hml]; rfl) (Steps.refl _) (argsL := []) (rest := []) (lenOf pd_10 rfl) rfl (by show 2 * 0 + _ ≤ _; exact Nat.le_of_eq rfl) (hb hby at_52) (fun _ _ => ⟨rfl, e16, (by decide : 4 + 0 ≤ _), (by decide : 128 + 0 ≤ _)⟩)
    dsimp only [Pt.U, Pt.locs, Pt.cells, Pt.slots] at X17 l17 y17 z17 st17 hQ17
    subst l17 y17 z17
    obtain ⟨rfl, N17q, e17⟩ := hQ17
    have N17 := Fr.app N16 N17q
    refine own_trW st17 ?_
    show own_EndsW _ _ _ _ _ _ _ T17 (mkF m 55 #[.val (.int p1), .val (.int (1 : Int32)), .val (.ref r1), .val (.ref b11)] [.null])
    refine own_stW (fun _ kq => XS.ifnonnullNo X17.here hx rfl (hb hby at_55) rfl kq) ?_
    show own_EndsW _ _ _ _ _ _ _ T17 (mkF m 58 #[.val (.int p1), .val (.int (1 : Int32)), .val (.ref r1), .val (.ref b11)] [])
    refine own_stW (fun _ kq => XS.aloadN X17.here hx rfl (hb hby at_58) rfl rfl kq) ?_
    show own_EndsW _ _ _ _ _ _ _ T17 (mkF m 59 #[.val (.int p1), .val (.int (1 : Int32)), .val (.ref r1), .val (.ref b11)] [(.ref b11)])
    obtain ⟨cq18, kq18, q18a, q18b, q18c⟩ := isOf hZ e17 f11_0
    obtain ⟨_, _, ⟨T18, L18, k18, n18⟩, -, X18, ⟨Lc18, hQ18, l18, y18, z18⟩, st18⟩ := X17.virtualBack hx (y := (⟨"com/example/clear_tx/cleartx/TransactionDefinition", "declaredOn", "()Ljava/lang/String;"⟩ : MethodName)) (z := (⟨"com/example/clear_tx/cleartx/TransactionDefinition", "declaredOn", "()Ljava/lang/String;"⟩ : MethodName)) hown (mvT hZ (hw _ (List.mem_of_getElem? (i := 90) rfl))) (mvT hZ (hw _ (List.mem_of_getElem? (i := 91) rfl))) (notFace_of_selects (args := #[]) (mvT hZ (hw _ (List.mem_of_getElem? (i := 93) rfl)))) (mvT hZ (hw _ (List.mem_of_getElem? (i := 93) rfl))) (mvT hZ (hw _ (List.mem_of_getElem? (i := 92) rfl))) (by decide) (backOf (W := 0) (rm_get13 l Z a0 hw [] b11 c11 T11.heap n0 O11 f11_1 f11_8) hZ (hw _ (List.mem_of_getElem? (i := 94) rfl)) (hw _ (List.mem_of_getElem? (i := 10) rfl)) (by decide) (by decide)) q18a q18c (g := (mkF m 59 #[.val (.int p1), .val (.int (1 : Int32)), .val (.ref r1), .val (.ref b11)] [(.ref b11)])) rfl (by rw [hml]; rfl) (Steps.refl _) (argsL := []) (rest := []) (lenOf pd_10 rfl) rfl (by show 2 * 0 + _ ≤ _; exact Nat.le_of_eq rfl) (hb hby at_59) (fun _ _ => ⟨rfl, e17, (by decide : 4 + 0 ≤ _), (by decide : 128 + 0 ≤ _)⟩)
    dsimp only [Pt.U, Pt.locs, Pt.cells, Pt.slots] at X18 l18 y18 z18 st18 hQ18
    subst l18 y18 z18
    obtain ⟨rfl, N18q, e18⟩ := hQ18
    have N18 := Fr.app N17 N18q
    refine own_trW st18 ?_
    show own_EndsW _ _ _ _ _ _ _ T18 (mkF m 62 #[.val (.int p1), .val (.int (1 : Int32)), .val (.ref r1), .val (.ref b11)] [.null])
    refine own_stW (fun _ kq => XS.ifnonnullNo X18.here hx rfl (hb hby at_62) rfl kq) ?_
    show own_EndsW _ _ _ _ _ _ _ T18 (mkF m 65 #[.val (.int p1), .val (.int (1 : Int32)), .val (.ref r1), .val (.ref b11)] [])
    refine own_stW (fun _ kq => XS.iconst X18.here hx rfl (hb hby at_65) kq) ?_
    show own_EndsW _ _ _ _ _ _ _ T18 (mkF m 66 #[.val (.int p1), .val (.int (1 : Int32)), .val (.ref r1), .val (.ref b11)] [(.int (1 : Int32))])
    refine own_stW (fun _ kq => XS.goto X18.here hx rfl (pc0 := 66) (pc' := 70) rfl (hb hby at_66) (by decide) (by decide) kq) ?_
    show own_EndsW _ _ _ _ _ _ _ T18 (mkF m 70 #[.val (.int p1), .val (.int (1 : Int32)), .val (.ref r1), .val (.ref b11)] [(.int (1 : Int32))])
    refine own_retNW X18 hS (by rw [e18]; exact hk) hx (t := .boolean) Bd.returns (by simp) (hb hby at_70) hlk (by decide) (by decide) (w := (1 : Int32)) (by decide) ?_
    show Q_rm_law Z p1 r0 rD r3 r5 r6 r4 r2 r1 rL h0 n0 _ T18.heap _
    rw [e18]
    exact ⟨rfl, N18⟩
  · rw [ej]
    show own_EndsW _ _ _ _ _ _ _ s₁ (mkF m 7 #[.val (.int p1), .unset, .unset, .unset] [(.int (2 : Int32))])
    refine own_stW (fun _ kq => XS.istoreN X0.here hx rfl (hb hby at_7) rfl (l' := #[.val (.int p1), .val (.int (2 : Int32)), .unset, .unset]) rfl kq) ?_
    show own_EndsW _ _ _ _ _ _ _ s₁ (mkF m 8 #[.val (.int p1), .val (.int (2 : Int32)), .unset, .unset] [])
    refine own_stW (fun _ kq => XS.iloadN X0.here hx rfl (hb hby at_8) rfl kq) ?_
    show own_EndsW _ _ _ _ _ _ _ s₁ (mkF m 9 #[.val (.int p1), .val (.int (2 : Int32)), .unset, .unset] [(.int (2 : Int32))])
    obtain ⟨_, _, ⟨T19, L19, k19, n19⟩, -, X19, ⟨Lc19, hQ19, l19, y19, z19⟩, st19⟩ := Jvm.LawKit.callS X0 hx (y := (⟨"com/example/clear_tx/cleartx/TransactionDefinitionOfPinLaw", "pick", "(I)Lcom/example/clear_tx/cleartx/Propagation;"⟩ : MethodName)) hown (mvT hZ (hw _ (List.mem_of_getElem? (i := 1) rfl))) (mvT hZ (hw _ (List.mem_of_getElem? (i := 2) rfl))) (mvT hZ (hw _ (List.mem_of_getElem? (i := 3) rfl))) (mvT hZ (hw _ (List.mem_of_getElem? (i := 4) rfl))) (by decide) (backOf (W := 0) (rm_pick2 l Z a0 hw [] r0 rD r3 r5 r6 r4 r2 r1 rL h0 n0 O0 G) hZ (hw _ (List.mem_of_getElem? (i := 4) rfl)) (hw _ (List.mem_of_getElem? (i := 3) rfl)) (by decide) (by decide)) (g := (mkF m 9 #[.val (.int p1), .val (.int (2 : Int32)), .unset, .unset] [(.int (2 : Int32))])) rfl (by rw [hml]; rfl) (argsL := [(.int (2 : Int32))]) (rest := []) (lenOf pd_0 rfl) rfl (by show 2 * 0 + _ ≤ _; exact Nat.le_of_eq rfl) (hb hby at_9) (fun _ _ => ⟨rfl, e0, (by decide : 0 + 0 ≤ _), (by decide : 0 + 0 ≤ _)⟩)
    dsimp only [Pt.U, Pt.locs, Pt.cells, Pt.slots] at X19 l19 y19 z19 st19 hQ19
    subst l19 y19 z19
    obtain ⟨rfl, N19q, e19⟩ := hQ19
    have N19 := Fr.app N0 N19q
    refine own_stW st19 ?_
    show own_EndsW _ _ _ _ _ _ _ T19 (mkF m 12 #[.val (.int p1), .val (.int (2 : Int32)), .unset, .unset] [(.ref r2)])
    refine own_stW (fun _ kq => XS.astoreN X19.here hx rfl (hb hby at_12) rfl rfl (l' := #[.val (.int p1), .val (.int (2 : Int32)), .val (.ref r2), .unset]) rfl kq) ?_
    show own_EndsW _ _ _ _ _ _ _ T19 (mkF m 13 #[.val (.int p1), .val (.int (2 : Int32)), .val (.ref r2), .unset] [])
    refine own_stW (fun _ kq => XS.aloadN X19.here hx rfl (hb hby at_13) rfl rfl kq) ?_
    show own_EndsW _ _ _ _ _ _ _ T19 (mkF m 14 #[.val (.int p1), .val (.int (2 : Int32)), .val (.ref r2), .unset] [(.ref r2)])
    obtain ⟨_, _, ⟨T20, L20, k20, n20⟩, -, X20, hS2, hgr, ⟨Lc20, hQ20, l20, y20, z20⟩, st20⟩ := Jvm.RoadKit.callSS X19 hx (y := (⟨"com/example/clear_tx/cleartx/TransactionDefinition", "of", "(Lcom/example/clear_tx/cleartx/Propagation;)Lcom/example/clear_tx/cleartx/TransactionDefinition;"⟩ : MethodName)) hown (mvT hZ (hw _ (List.mem_of_getElem? (i := 8) rfl))) (mvT hZ (hw _ (List.mem_of_getElem? (i := 9) rfl))) (mvT hZ (hw _ (List.mem_of_getElem? (i := 10) rfl))) (mvT hZ (hw _ (List.mem_of_getElem? (i := 11) rfl))) (by decide) (backOfS (W := 0) (rm_of l Z a0 hw [] r2 r0 rD r3 r5 r6 r4 r2 r1 rL h0 n0 O0 G) hZ (hw _ (List.mem_of_getElem? (i := 11) rfl)) (hw _ (List.mem_of_getElem? (i := 10) rfl)) (by decide) (by decide)) (g := (mkF m 14 #[.val (.int p1), .val (.int (2 : Int32)), .val (.ref r2), .unset] [(.ref r2)])) rfl (by rw [hml]; rfl) (argsL := [(.ref r2)]) (rest := []) (lenOf pd_1 rfl) rfl (by show 2 * 0 + _ ≤ _; exact Nat.le_of_eq rfl) (hb hby at_14) (fun _ _ => ⟨rfl, e19, (by decide : 0 + 4 ≤ _), (by decide : 0 + 128 ≤ _)⟩)
    dsimp only [Pt.U, Pt.locs, Pt.cells, Pt.slots] at X20 l20 y20 z20 st20 hQ20 hS2 hgr
    subst l20 y20 z20
    have X20 : Stand p l e room_1 (s.setVm T20.vm) m #[(.int p1)] below meth c T20 _ _ _ := X20
    have hS := foldS hS (show _ ≤ T19.heap.size by rw [e19]; exact hk) hS2 hgr
    have hk := Nat.le_refl T20.heap.size
    have hZ : Z.Warmed39 (s.setVm T20.vm).vm := State.Warmed39.trans hZ hS2.1
    have hown : (s.setVm T20.vm).vm.findClass "com/example/clear_tx/cleartx/TransactionDefinitionOfPinLaw" = some m.cls := by rw [show (s.setVm T20.vm).vm = T20.vm from rfl, hS2.1.alike.findClass]; exact hown
    obtain ⟨b20, c20, rfl, N20q, K20, O20, f20_0, f20_1, f20_2, f20_3, f20_4, f20_5, f20_6, f20_7, f20_8⟩ := hQ20
    have N20 := Fr.app N19 N20q
    refine own_trW st20 ?_
    show own_EndsW _ _ _ _ _ _ _ T20 (mkF m 17 #[.val (.int p1), .val (.int (2 : Int32)), .val (.ref r2), .unset] [(.ref b20)])
    refine own_stW (fun _ kq => XS.astoreN X20.here hx rfl (hb hby at_17) rfl rfl (l' := #[.val (.int p1), .val (.int (2 : Int32)), .val (.ref r2), .val (.ref b20)]) rfl kq) ?_
    show own_EndsW _ _ _ _ _ _ _ T20 (mkF m 18 #[.val (.int p1), .val (.int (2 : Int32)), .val (.ref r2), .val (.ref b20)] [])
    refine own_stW (fun _ kq => XS.aloadN X20.here hx rfl (hb hby at_18) rfl rfl kq) ?_
    show own_EndsW _ _ _ _ _ _ _ T20 (mkF m 19 #[.val (.int p1), .val (.int (2 : Int32)), .val (.ref r2), .val (.ref b20)] [(.ref b20)])
    obtain ⟨cq21, kq21, q21a, q21b, q21c⟩ := isOf hZ rfl f20_0
    obtain ⟨_, _, ⟨T21, L21, k21, n21⟩, -, X21, ⟨Lc21, hQ21, l21, y21, z21⟩, st21⟩ := X20.virtualBack hx (y := (⟨"com/example/clear_tx/cleartx/TransactionDefinition", "propagation", "()Lcom/example/clear_tx/cleartx/Propagation;"⟩ : MethodName)) (z := (⟨"com/example/clear_tx/cleartx/TransactionDefinition", "propagation", "()Lcom/example/clear_tx/cleartx/Propagation;"⟩ : MethodName)) hown (mvT hZ (hw _ (List.mem_of_getElem? (i := 58) rfl))) (mvT hZ (hw _ (List.mem_of_getElem? (i := 59) rfl))) (notFace_of_selects (args := #[]) (mvT hZ (hw _ (List.mem_of_getElem? (i := 61) rfl)))) (mvT hZ (hw _ (List.mem_of_getElem? (i := 61) rfl))) (mvT hZ (hw _ (List.mem_of_getElem? (i := 60) rfl))) (by decide) (backOf (W := 0) (rm_get8 l Z a0 hw [] b20 c20 r2 T20.heap n0 O20 f20_1 f20_2) hZ (hw _ (List.mem_of_getElem? (i := 62) rfl)) (hw _ (List.mem_of_getElem? (i := 10) rfl)) (by decide) (by decide)) q21a q21c (g := (mkF m 19 #[.val (.int p1), .val (.int (2 : Int32)), .val (.ref r2), .val (.ref b20)] [(.ref b20)])) rfl (by rw [hml]; rfl) (Steps.refl _) (argsL := []) (rest := []) (lenOf pd_6 rfl) rfl (by show 2 * 0 + _ ≤ _; exact Nat.le_of_eq rfl) (hb hby at_19) (fun _ _ => ⟨rfl, rfl, (by decide : 4 + 0 ≤ _), (by decide : 128 + 0 ≤ _)⟩)
    dsimp only [Pt.U, Pt.locs, Pt.cells, Pt.slots] at X21 l21 y21 z21 st21 hQ21
    subst l21 y21 z21
    obtain ⟨rfl, N21q, e21⟩ := hQ21
    have N21 := Fr.app N20 N21q
    refine own_trW st21 ?_
    show own_EndsW _ _ _ _ _ _ _ T21 (mkF m 22 #[.val (.int p1), .val (.int (2 : Int32)), .val (.ref r2), .val (.ref b20)] [(.ref r2)])
    refine own_stW (fun _ kq => XS.aloadN X21.here hx rfl (hb hby at_22) rfl rfl kq) ?_
    show own_EndsW _ _ _ _ _ _ _ T21 (mkF m 23 #[.val (.int p1), .val (.int (2 : Int32)), .val (.ref r2), .val (.ref b20)] [(.ref r2), (.ref r2)])
    refine own_stW (fun _ kq => Jvm.RoadKit.acmp (g := (mkF m 23 #[.val (.int p1), .val (.int (2 : Int32)), .val (.ref r2), .val (.ref b20)] [(.ref r2), (.ref r2)])) X21 hx rfl rfl rfl (pc0 := 23) (pc' := 26) (same := true) rfl (hb hby at_23) rfl (decide_eq_true rfl) (by decide) (by decide) kq) ?_
    show own_EndsW _ _ _ _ _ _ _ T21 (mkF m 26 #[.val (.int p1), .val (.int (2 : Int32)), .val (.ref r2), .val (.ref b20)] [])
    refine own_stW (fun _ kq => XS.aloadN X21.here hx rfl (hb hby at_26) rfl rfl kq) ?_
    show own_EndsW _ _ _ _ _ _ _ T21 (mkF m 27 #[.val (.int p1), .val (.int (2 : Int32)), .val (.ref r2), .val (.ref b20)] [(.ref b20)])
    obtain ⟨cq22, kq22, q22a, q22b, q22c⟩ := isOf hZ e21 f20_0
    obtain ⟨_, _, ⟨T22, L22, k22, n22⟩, -, X22, ⟨Lc22, hQ22, l22, y22, z22⟩, st22⟩ := X21.virtualBack hx (y := (⟨"com/example/clear_tx/cleartx/TransactionDefinition", "isolation", "()Lcom/example/clear_tx/cleartx/Isolation;"⟩ : MethodName)) (z := (⟨"com/example/clear_tx/cleartx/TransactionDefinition", "isolation", "()Lcom/example/clear_tx/cleartx/Isolation;"⟩ : MethodName)) hown (mvT hZ (hw _ (List.mem_of_getElem? (i := 63) rfl))) (mvT hZ (hw _ (List.mem_of_getElem? (i := 64) rfl))) (notFace_of_selects (args := #[]) (mvT hZ (hw _ (List.mem_of_getElem? (i := 66) rfl)))) (mvT hZ (hw _ (List.mem_of_getElem? (i := 66) rfl))) (mvT hZ (hw _ (List.mem_of_getElem? (i := 65) rfl))) (by decide) (backOf (W := 0) (rm_get9 l Z a0 hw [] b20 c20 rD T20.heap n0 O20 f20_1 f20_3) hZ (hw _ (List.mem_of_getElem? (i := 67) rfl)) (hw _ (List.mem_of_getElem? (i := 10) rfl)) (by decide) (by decide)) q22a q22c (g := (mkF m 27 #[.val (.int p1), .val (.int (2 : Int32)), .val (.ref r2), .val (.ref b20)] [(.ref b20)])) rfl (by rw [hml]; rfl) (Steps.refl _) (argsL := []) (rest := []) (lenOf pd_7 rfl) rfl (by show 2 * 0 + _ ≤ _; exact Nat.le_of_eq rfl) (hb hby at_27) (fun _ _ => ⟨rfl, e21, (by decide : 4 + 0 ≤ _), (by decide : 128 + 0 ≤ _)⟩)
    dsimp only [Pt.U, Pt.locs, Pt.cells, Pt.slots] at X22 l22 y22 z22 st22 hQ22
    subst l22 y22 z22
    obtain ⟨rfl, N22q, e22⟩ := hQ22
    have N22 := Fr.app N21 N22q
    refine own_trW st22 ?_
    show own_EndsW _ _ _ _ _ _ _ T22 (mkF m 30 #[.val (.int p1), .val (.int (2 : Int32)), .val (.ref r2), .val (.ref b20)] [(.ref rD)])
    obtain ⟨T23, X23, e23, st23⟩ := getS2 X22 hx hZ hown (host := "") (Or.inl (hw _ (List.mem_of_getElem? (i := 69) rfl))) Via.refl e22 (S_D.ext O20.2) (g := (mkF m 30 #[.val (.int p1), .val (.int (2 : Int32)), .val (.ref r2), .val (.ref b20)] [(.ref rD)])) rfl (hb hby at_30)
    refine own_stW st23 ?_
    show own_EndsW _ _ _ _ _ _ _ T23 (mkF m 33 #[.val (.int p1), .val (.int (2 : Int32)), .val (.ref r2), .val (.ref b20)] [(.ref rD), (.ref rD)])
    refine own_stW (fun _ kq => Jvm.RoadKit.acmp (g := (mkF m 33 #[.val (.int p1), .val (.int (2 : Int32)), .val (.ref r2), .val (.ref b20)] [(.ref rD), (.ref rD)])) X23 hx rfl rfl rfl (pc0 := 33) (pc' := 36) (same := true) rfl (hb hby at_33) rfl (decide_eq_true rfl) (by decide) (by decide) kq) ?_
    show own_EndsW _ _ _ _ _ _ _ T23 (mkF m 36 #[.val (.int p1), .val (.int (2 : Int32)), .val (.ref r2), .val (.ref b20)] [])
    refine own_stW (fun _ kq => XS.aloadN X23.here hx rfl (hb hby at_36) rfl rfl kq) ?_
    show own_EndsW _ _ _ _ _ _ _ T23 (mkF m 37 #[.val (.int p1), .val (.int (2 : Int32)), .val (.ref r2), .val (.ref b20)] [(.ref b20)])
    obtain ⟨cq24, kq24, q24a, q24b, q24c⟩ := isOf hZ e23 f20_0
    obtain ⟨_, _, ⟨T24, L24, k24, n24⟩, -, X24, ⟨Lc24, hQ24, l24, y24, z24⟩, st24⟩ := X23.virtualBack hx (y := (⟨"com/example/clear_tx/cleartx/TransactionDefinition", "isReadOnly", "()Z"⟩ : MethodName)) (z := (⟨"com/example/clear_tx/cleartx/TransactionDefinition", "isReadOnly", "()Z"⟩ : MethodName)) hown (mvT hZ (hw _ (List.mem_of_getElem? (i := 70) rfl))) (mvT hZ (hw _ (List.mem_of_getElem? (i := 71) rfl))) (notFace_of_selects (args := #[]) (mvT hZ (hw _ (List.mem_of_getElem? (i := 73) rfl)))) (mvT hZ (hw _ (List.mem_of_getElem? (i := 73) rfl))) (mvT hZ (hw _ (List.mem_of_getElem? (i := 72) rfl))) (by decide) (backOf (W := 0) (rm_get10 l Z a0 hw [] b20 c20 T20.heap n0 O20 f20_1 f20_4) hZ (hw _ (List.mem_of_getElem? (i := 74) rfl)) (hw _ (List.mem_of_getElem? (i := 10) rfl)) (by decide) (by decide)) q24a q24c (g := (mkF m 37 #[.val (.int p1), .val (.int (2 : Int32)), .val (.ref r2), .val (.ref b20)] [(.ref b20)])) rfl (by rw [hml]; rfl) (Steps.refl _) (argsL := []) (rest := []) (lenOf pd_8 rfl) rfl (by show 2 * 0 + _ ≤ _; exact Nat.le_of_eq rfl) (hb hby at_37) (fun _ _ => ⟨rfl, e23, (by decide : 4 + 0 ≤ _), (by decide : 128 + 0 ≤ _)⟩)
    dsimp only [Pt.U, Pt.locs, Pt.cells, Pt.slots] at X24 l24 y24 z24 st24 hQ24
    subst l24 y24 z24
    obtain ⟨rfl, N24q, e24⟩ := hQ24
    have N24 := Fr.app N22 N24q
    refine own_trW st24 ?_
    show own_EndsW _ _ _ _ _ _ _ T24 (mkF m 40 #[.val (.int p1), .val (.int (2 : Int32)), .val (.ref r2), .val (.ref b20)] [(.int (0 : Int32))])
    refine own_stW (fun _ kq => XS.ifNo X24.here hx rfl (hb hby at_40) rfl ((if0 _ _).trans (teq (by decide : (0 : Int32) = (0 : Int32))).2) kq) ?_
    show own_EndsW _ _ _ _ _ _ _ T24 (mkF m 43 #[.val (.int p1), .val (.int (2 : Int32)), .val (.ref r2), .val (.ref b20)] [])
    refine own_stW (fun _ kq => XS.aloadN X24.here hx rfl (hb hby at_43) rfl rfl kq) ?_
    show own_EndsW _ _ _ _ _ _ _ T24 (mkF m 44 #[.val (.int p1), .val (.int (2 : Int32)), .val (.ref r2), .val (.ref b20)] [(.ref b20)])
    obtain ⟨cq25, kq25, q25a, q25b, q25c⟩ := isOf hZ e24 f20_0
    obtain ⟨_, _, ⟨T25, L25, k25, n25⟩, -, X25, ⟨Lc25, hQ25, l25, y25, z25⟩, st25⟩ := X24.virtualBack hx (y := (⟨"com/example/clear_tx/cleartx/TransactionDefinition", "timeout", "()I"⟩ : MethodName)) (z := (⟨"com/example/clear_tx/cleartx/TransactionDefinition", "timeout", "()I"⟩ : MethodName)) hown (mvT hZ (hw _ (List.mem_of_getElem? (i := 77) rfl))) (mvT hZ (hw _ (List.mem_of_getElem? (i := 78) rfl))) (notFace_of_selects (args := #[]) (mvT hZ (hw _ (List.mem_of_getElem? (i := 80) rfl)))) (mvT hZ (hw _ (List.mem_of_getElem? (i := 80) rfl))) (mvT hZ (hw _ (List.mem_of_getElem? (i := 79) rfl))) (by decide) (backOf (W := 0) (rm_get11 l Z a0 hw [] b20 c20 T20.heap n0 O20 f20_1 f20_5) hZ (hw _ (List.mem_of_getElem? (i := 81) rfl)) (hw _ (List.mem_of_getElem? (i := 10) rfl)) (by decide) (by decide)) q25a q25c (g := (mkF m 44 #[.val (.int p1), .val (.int (2 : Int32)), .val (.ref r2), .val (.ref b20)] [(.ref b20)])) rfl (by rw [hml]; rfl) (Steps.refl _) (argsL := []) (rest := []) (lenOf pd_9 rfl) rfl (by show 2 * 0 + _ ≤ _; exact Nat.le_of_eq rfl) (hb hby at_44) (fun _ _ => ⟨rfl, e24, (by decide : 4 + 0 ≤ _), (by decide : 128 + 0 ≤ _)⟩)
    dsimp only [Pt.U, Pt.locs, Pt.cells, Pt.slots] at X25 l25 y25 z25 st25 hQ25
    subst l25 y25 z25
    obtain ⟨rfl, N25q, e25⟩ := hQ25
    have N25 := Fr.app N24 N25q
    refine own_trW st25 ?_
    show own_EndsW _ _ _ _ _ _ _ T25 (mkF m 47 #[.val (.int p1), .val (.int (2 : Int32)), .val (.ref r2), .val (.ref b20)] [(.int (-1 : Int32))])
    refine own_stW (fun _ kq => XS.iconst X25.here hx rfl (hb hby at_47) kq) ?_
    show own_EndsW _ _ _ _ _ _ _ T25 (mkF m 48 #[.val (.int p1), .val (.int (2 : Int32)), .val (.ref r2), .val (.ref b20)] [(.int (-1 : Int32)), (.int (-1 : Int32))])
    refine own_stW (fun _ kq => XS.icmpNo X25.here hx rfl (hb hby at_48) rfl (teq (by decide : (-1 : Int32) = (-1 : Int32))).2 kq) ?_
    show own_EndsW _ _ _ _ _ _ _ T25 (mkF m 51 #[.val (.int p1), .val (.int (2 : Int32)), .val (.ref r2), .val (.ref b20)] [])
    refine own_stW (fun _ kq => XS.aloadN X25.here hx rfl (hb hby at_51) rfl rfl kq) ?_
    show own_EndsW _ _ _ _ _ _ _ T25 (mkF m 52 #[.val (.int p1), .val (.int (2 : Int32)), .val (.ref r2), .val (.ref b20)] [(.ref b20)])
    obtain ⟨cq26, kq26, q26a, q26b, q26c⟩ := isOf hZ e25 f20_0
    obtain ⟨_, _, ⟨T26, L26, k26, n26⟩, -, X26, ⟨Lc26, hQ26, l26, y26, z26⟩, st26⟩ := X25.virtualBack hx (y := (⟨"com/example/clear_tx/cleartx/TransactionDefinition", "name", "()Ljava/lang/String;"⟩ : MethodName)) (z := (⟨"com/example/clear_tx/cleartx/TransactionDefinition", "name", "()Ljava/lang/String;"⟩ : MethodName)) hown (mvT hZ (hw _ (List.mem_of_getElem? (i := 83) rfl))) (mvT hZ (hw _ (List.mem_of_getElem? (i := 84) rfl))) (notFace_of_selects (args := #[]) (mvT hZ (hw _ (List.mem_of_getElem? (i := 86) rfl)))) (mvT hZ (hw _ (List.mem_of_getElem? (i := 86) rfl))) (mvT hZ (hw _ (List.mem_of_getElem? (i := 85) rfl))) (by decide) (backOf (W := 0) (rm_get12 l Z a0 hw [] b20 c20 T20.heap n0 O20 f20_1 f20_6) hZ (hw _ (List.mem_of_getElem? (i := 87) rfl)) (hw _ (List.mem_of_getElem? (i := 10) rfl)) (by decide) (by decide)) q26a q26c (g := (mkF m 52 #[.val (.int p1), .val (.int (2 : Int32)), .val (.ref r2), .val (.ref b20)] [(.ref b20)])) rfl (by rw [hml]; rfl) (Steps.refl _) (argsL := []) (rest := []) (lenOf pd_10 rfl) rfl (by show 2 * 0 + _ ≤ _; exact Nat.le_of_eq rfl) (hb hby at_52) (fun _ _ => ⟨rfl, e25, (by decide : 4 + 0 ≤ _), (by decide : 128 + 0 ≤ _)⟩)
    dsimp only [Pt.U, Pt.locs, Pt.cells, Pt.slots] at X26 l26 y26 z26 st26 hQ26
    subst l26 y26 z26
    obtain ⟨rfl, N26q, e26⟩ := hQ26
    have N26 := Fr.app N25 N26q
    refine own_trW st26 ?_
    show own_EndsW _ _ _ _ _ _ _ T26 (mkF m 55 #[.val (.int p1), .val (.int (2 : Int32)), .val (.ref r2), .val (.ref b20)] [.null])
    refine own_stW (fun _ kq => XS.ifnonnullNo X26.here hx rfl (hb hby at_55) rfl kq) ?_
    show own_EndsW _ _ _ _ _ _ _ T26 (mkF m 58 #[.val (.int p1), .val (.int (2 : Int32)), .val (.ref r2), .val (.ref b20)] [])
    refine own_stW (fun _ kq => XS.aloadN X26.here hx rfl (hb hby at_58) rfl rfl kq) ?_
    show own_EndsW _ _ _ _ _ _ _ T26 (mkF m 59 #[.val (.int p1), .val (.int (2 : Int32)), .val (.ref r2), .val (.ref b20)] [(.ref b20)])
    obtain ⟨cq27, kq27, q27a, q27b, q27c⟩ := isOf hZ e26 f20_0
    obtain ⟨_, _, ⟨T27, L27, k27, n27⟩, -, X27, ⟨Lc27, hQ27, l27, y27, z27⟩, st27⟩ := X26.virtualBack hx (y := (⟨"com/example/clear_tx/cleartx/TransactionDefinition", "declaredOn", "()Ljava/lang/String;"⟩ : MethodName)) (z := (⟨"com/example/clear_tx/cleartx/TransactionDefinition", "declaredOn", "()Ljava/lang/String;"⟩ : MethodName)) hown (mvT hZ (hw _ (List.mem_of_getElem? (i := 90) rfl))) (mvT hZ (hw _ (List.mem_of_getElem? (i := 91) rfl))) (notFace_of_selects (args := #[]) (mvT hZ (hw _ (List.mem_of_getElem? (i := 93) rfl)))) (mvT hZ (hw _ (List.mem_of_getElem? (i := 93) rfl))) (mvT hZ (hw _ (List.mem_of_getElem? (i := 92) rfl))) (by decide) (backOf (W := 0) (rm_get13 l Z a0 hw [] b20 c20 T20.heap n0 O20 f20_1 f20_8) hZ (hw _ (List.mem_of_getElem? (i := 94) rfl)) (hw _ (List.mem_of_getElem? (i := 10) rfl)) (by decide) (by decide)) q27a q27c (g := (mkF m 59 #[.val (.int p1), .val (.int (2 : Int32)), .val (.ref r2), .val (.ref b20)] [(.ref b20)])) rfl (by rw [hml]; rfl) (Steps.refl _) (argsL := []) (rest := []) (lenOf pd_10 rfl) rfl (by show 2 * 0 + _ ≤ _; exact Nat.le_of_eq rfl) (hb hby at_59) (fun _ _ => ⟨rfl, e26, (by decide : 4 + 0 ≤ _), (by decide : 128 + 0 ≤ _)⟩)
    dsimp only [Pt.U, Pt.locs, Pt.cells, Pt.slots] at X27 l27 y27 z27 st27 hQ27
    subst l27 y27 z27
    obtain ⟨rfl, N27q, e27⟩ := hQ27
    have N27 := Fr.app N26 N27q
    refine own_trW st27 ?_
    show own_EndsW _ _ _ _ _ _ _ T27 (mkF m 62 #[.val (.int p1), .val (.int (2 : Int32)), .val (.ref r2), .val (.ref b20)] [.null])
    refine own_stW (fun _ kq => XS.ifnonnullNo X27.here hx rfl (hb hby at_62) rfl kq) ?_
    show own_EndsW _ _ _ _ _ _ _ T27 (mkF m 65 #[.val (.int p1), .val (.int (2 : Int32)), .val (.ref r2), .val (.ref b20)] [])
    refine own_stW (fun _ kq => XS.iconst X27.here hx rfl (hb hby at_65) kq) ?_
    show own_EndsW _ _ _ _ _ _ _ T27 (mkF m 66 #[.val (.int p1), .val (.int (2 : Int32)), .val (.ref r2), .val (.ref b20)] [(.int (1 : Int32))])
    refine own_stW (fun _ kq => XS.goto X27.here hx rfl (pc0 := 66) (pc' := 70) rfl (hb hby at_66) (by decide) (by decide) kq) ?_
    show own_EndsW _ _ _ _ _ _ _ T27 (mkF m 70 #[.val (.int p1), .val (.int (2 : Int32)), .val (.ref r2), .val (.ref b20)] [(.int (1 : Int32))])
    refine own_retNW X27 hS (by rw [e27]; exact hk) hx (t := .boolean) Bd.returns (by simp) (hb hby at_70) hlk (by decide) (by decide) (w := (1 : Int32)) (by decide) ?_
    show Q_rm_law Z p1 r0 rD r3 r5 r6 r4 r2 r1 rL h0 n0 _ T27.heap _
    rw [e27]
    exact ⟨rfl, N27⟩
  · rw [ej]
    show own_EndsW _ _ _ _ _ _ _ s₁ (mkF m 7 #[.val (.int p1), .unset, .unset, .unset] [(.int (3 : Int32))])
    refine own_stW (fun _ kq => XS.istoreN X0.here hx rfl (hb hby at_7) rfl (l' := #[.val (.int p1), .val (.int (3 : Int32)), .unset, .unset]) rfl kq) ?_
    show own_EndsW _ _ _ _ _ _ _ s₁ (mkF m 8 #[.val (.int p1), .val (.int (3 : Int32)), .unset, .unset] [])
    refine own_stW (fun _ kq => XS.iloadN X0.here hx rfl (hb hby at_8) rfl kq) ?_
    show own_EndsW _ _ _ _ _ _ _ s₁ (mkF m 9 #[.val (.int p1), .val (.int (3 : Int32)), .unset, .unset] [(.int (3 : Int32))])
    obtain ⟨_, _, ⟨T28, L28, k28, n28⟩, -, X28, ⟨Lc28, hQ28, l28, y28, z28⟩, st28⟩ := Jvm.LawKit.callS X0 hx (y := (⟨"com/example/clear_tx/cleartx/TransactionDefinitionOfPinLaw", "pick", "(I)Lcom/example/clear_tx/cleartx/Propagation;"⟩ : MethodName)) hown (mvT hZ (hw _ (List.mem_of_getElem? (i := 1) rfl))) (mvT hZ (hw _ (List.mem_of_getElem? (i := 2) rfl))) (mvT hZ (hw _ (List.mem_of_getElem? (i := 3) rfl))) (mvT hZ (hw _ (List.mem_of_getElem? (i := 4) rfl))) (by decide) (backOf (W := 0) (rm_pick3 l Z a0 hw [] r0 rD r3 r5 r6 r4 r2 r1 rL h0 n0 O0 G) hZ (hw _ (List.mem_of_getElem? (i := 4) rfl)) (hw _ (List.mem_of_getElem? (i := 3) rfl)) (by decide) (by decide)) (g := (mkF m 9 #[.val (.int p1), .val (.int (3 : Int32)), .unset, .unset] [(.int (3 : Int32))])) rfl (by rw [hml]; rfl) (argsL := [(.int (3 : Int32))]) (rest := []) (lenOf pd_0 rfl) rfl (by show 2 * 0 + _ ≤ _; exact Nat.le_of_eq rfl) (hb hby at_9) (fun _ _ => ⟨rfl, e0, (by decide : 0 + 0 ≤ _), (by decide : 0 + 0 ≤ _)⟩)
    dsimp only [Pt.U, Pt.locs, Pt.cells, Pt.slots] at X28 l28 y28 z28 st28 hQ28
    subst l28 y28 z28
    obtain ⟨rfl, N28q, e28⟩ := hQ28
    have N28 := Fr.app N0 N28q
    refine own_stW st28 ?_
    show own_EndsW _ _ _ _ _ _ _ T28 (mkF m 12 #[.val (.int p1), .val (.int (3 : Int32)), .unset, .unset] [(.ref r3)])
    refine own_stW (fun _ kq => XS.astoreN X28.here hx rfl (hb hby at_12) rfl rfl (l' := #[.val (.int p1), .val (.int (3 : Int32)), .val (.ref r3), .unset]) rfl kq) ?_
    show own_EndsW _ _ _ _ _ _ _ T28 (mkF m 13 #[.val (.int p1), .val (.int (3 : Int32)), .val (.ref r3), .unset] [])
    refine own_stW (fun _ kq => XS.aloadN X28.here hx rfl (hb hby at_13) rfl rfl kq) ?_
    show own_EndsW _ _ _ _ _ _ _ T28 (mkF m 14 #[.val (.int p1), .val (.int (3 : Int32)), .val (.ref r3), .unset] [(.ref r3)])
    obtain ⟨_, _, ⟨T29, L29, k29, n29⟩, -, X29, hS2, hgr, ⟨Lc29, hQ29, l29, y29, z29⟩, st29⟩ := Jvm.RoadKit.callSS X28 hx (y := (⟨"com/example/clear_tx/cleartx/TransactionDefinition", "of", "(Lcom/example/clear_tx/cleartx/Propagation;)Lcom/example/clear_tx/cleartx/TransactionDefinition;"⟩ : MethodName)) hown (mvT hZ (hw _ (List.mem_of_getElem? (i := 8) rfl))) (mvT hZ (hw _ (List.mem_of_getElem? (i := 9) rfl))) (mvT hZ (hw _ (List.mem_of_getElem? (i := 10) rfl))) (mvT hZ (hw _ (List.mem_of_getElem? (i := 11) rfl))) (by decide) (backOfS (W := 0) (rm_of l Z a0 hw [] r3 r0 rD r3 r5 r6 r4 r2 r1 rL h0 n0 O0 G) hZ (hw _ (List.mem_of_getElem? (i := 11) rfl)) (hw _ (List.mem_of_getElem? (i := 10) rfl)) (by decide) (by decide)) (g := (mkF m 14 #[.val (.int p1), .val (.int (3 : Int32)), .val (.ref r3), .unset] [(.ref r3)])) rfl (by rw [hml]; rfl) (argsL := [(.ref r3)]) (rest := []) (lenOf pd_1 rfl) rfl (by show 2 * 0 + _ ≤ _; exact Nat.le_of_eq rfl) (hb hby at_14) (fun _ _ => ⟨rfl, e28, (by decide : 0 + 4 ≤ _), (by decide : 0 + 128 ≤ _)⟩)
    dsimp only [Pt.U, Pt.locs, Pt.cells, Pt.slots] at X29 l29 y29 z29 st29 hQ29 hS2 hgr
    subst l29 y29 z29
    have X29 : Stand p l e room_1 (s.setVm T29.vm) m #[(.int p1)] below meth c T29 _ _ _ := X29
    have hS := foldS hS (show _ ≤ T28.heap.size by rw [e28]; exact hk) hS2 hgr
    have hk := Nat.le_refl T29.heap.size
    have hZ : Z.Warmed39 (s.setVm T29.vm).vm := State.Warmed39.trans hZ hS2.1
    have hown : (s.setVm T29.vm).vm.findClass "com/example/clear_tx/cleartx/TransactionDefinitionOfPinLaw" = some m.cls := by rw [show (s.setVm T29.vm).vm = T29.vm from rfl, hS2.1.alike.findClass]; exact hown
    obtain ⟨b29, c29, rfl, N29q, K29, O29, f29_0, f29_1, f29_2, f29_3, f29_4, f29_5, f29_6, f29_7, f29_8⟩ := hQ29
    have N29 := Fr.app N28 N29q
    refine own_trW st29 ?_
    show own_EndsW _ _ _ _ _ _ _ T29 (mkF m 17 #[.val (.int p1), .val (.int (3 : Int32)), .val (.ref r3), .unset] [(.ref b29)])
    refine own_stW (fun _ kq => XS.astoreN X29.here hx rfl (hb hby at_17) rfl rfl (l' := #[.val (.int p1), .val (.int (3 : Int32)), .val (.ref r3), .val (.ref b29)]) rfl kq) ?_
    show own_EndsW _ _ _ _ _ _ _ T29 (mkF m 18 #[.val (.int p1), .val (.int (3 : Int32)), .val (.ref r3), .val (.ref b29)] [])
    refine own_stW (fun _ kq => XS.aloadN X29.here hx rfl (hb hby at_18) rfl rfl kq) ?_
    show own_EndsW _ _ _ _ _ _ _ T29 (mkF m 19 #[.val (.int p1), .val (.int (3 : Int32)), .val (.ref r3), .val (.ref b29)] [(.ref b29)])
    obtain ⟨cq30, kq30, q30a, q30b, q30c⟩ := isOf hZ rfl f29_0
    obtain ⟨_, _, ⟨T30, L30, k30, n30⟩, -, X30, ⟨Lc30, hQ30, l30, y30, z30⟩, st30⟩ := X29.virtualBack hx (y := (⟨"com/example/clear_tx/cleartx/TransactionDefinition", "propagation", "()Lcom/example/clear_tx/cleartx/Propagation;"⟩ : MethodName)) (z := (⟨"com/example/clear_tx/cleartx/TransactionDefinition", "propagation", "()Lcom/example/clear_tx/cleartx/Propagation;"⟩ : MethodName)) hown (mvT hZ (hw _ (List.mem_of_getElem? (i := 58) rfl))) (mvT hZ (hw _ (List.mem_of_getElem? (i := 59) rfl))) (notFace_of_selects (args := #[]) (mvT hZ (hw _ (List.mem_of_getElem? (i := 61) rfl)))) (mvT hZ (hw _ (List.mem_of_getElem? (i := 61) rfl))) (mvT hZ (hw _ (List.mem_of_getElem? (i := 60) rfl))) (by decide) (backOf (W := 0) (rm_get8 l Z a0 hw [] b29 c29 r3 T29.heap n0 O29 f29_1 f29_2) hZ (hw _ (List.mem_of_getElem? (i := 62) rfl)) (hw _ (List.mem_of_getElem? (i := 10) rfl)) (by decide) (by decide)) q30a q30c (g := (mkF m 19 #[.val (.int p1), .val (.int (3 : Int32)), .val (.ref r3), .val (.ref b29)] [(.ref b29)])) rfl (by rw [hml]; rfl) (Steps.refl _) (argsL := []) (rest := []) (lenOf pd_6 rfl) rfl (by show 2 * 0 + _ ≤ _; exact Nat.le_of_eq rfl) (hb hby at_19) (fun _ _ => ⟨rfl, rfl, (by decide : 4 + 0 ≤ _), (by decide : 128 + 0 ≤ _)⟩)
    dsimp only [Pt.U, Pt.locs, Pt.cells, Pt.slots] at X30 l30 y30 z30 st30 hQ30
    subst l30 y30 z30
    obtain ⟨rfl, N30q, e30⟩ := hQ30
    have N30 := Fr.app N29 N30q
    refine own_trW st30 ?_
    show own_EndsW _ _ _ _ _ _ _ T30 (mkF m 22 #[.val (.int p1), .val (.int (3 : Int32)), .val (.ref r3), .val (.ref b29)] [(.ref r3)])
    refine own_stW (fun _ kq => XS.aloadN X30.here hx rfl (hb hby at_22) rfl rfl kq) ?_
    show own_EndsW _ _ _ _ _ _ _ T30 (mkF m 23 #[.val (.int p1), .val (.int (3 : Int32)), .val (.ref r3), .val (.ref b29)] [(.ref r3), (.ref r3)])
    refine own_stW (fun _ kq => Jvm.RoadKit.acmp (g := (mkF m 23 #[.val (.int p1), .val (.int (3 : Int32)), .val (.ref r3), .val (.ref b29)] [(.ref r3), (.ref r3)])) X30 hx rfl rfl rfl (pc0 := 23) (pc' := 26) (same := true) rfl (hb hby at_23) rfl (decide_eq_true rfl) (by decide) (by decide) kq) ?_
    show own_EndsW _ _ _ _ _ _ _ T30 (mkF m 26 #[.val (.int p1), .val (.int (3 : Int32)), .val (.ref r3), .val (.ref b29)] [])
    refine own_stW (fun _ kq => XS.aloadN X30.here hx rfl (hb hby at_26) rfl rfl kq) ?_
    show own_EndsW _ _ _ _ _ _ _ T30 (mkF m 27 #[.val (.int p1), .val (.int (3 : Int32)), .val (.ref r3), .val (.ref b29)] [(.ref b29)])
    obtain ⟨cq31, kq31, q31a, q31b, q31c⟩ := isOf hZ e30 f29_0
    obtain ⟨_, _, ⟨T31, L31, k31, n31⟩, -, X31, ⟨Lc31, hQ31, l31, y31, z31⟩, st31⟩ := X30.virtualBack hx (y := (⟨"com/example/clear_tx/cleartx/TransactionDefinition", "isolation", "()Lcom/example/clear_tx/cleartx/Isolation;"⟩ : MethodName)) (z := (⟨"com/example/clear_tx/cleartx/TransactionDefinition", "isolation", "()Lcom/example/clear_tx/cleartx/Isolation;"⟩ : MethodName)) hown (mvT hZ (hw _ (List.mem_of_getElem? (i := 63) rfl))) (mvT hZ (hw _ (List.mem_of_getElem? (i := 64) rfl))) (notFace_of_selects (args := #[]) (mvT hZ (hw _ (List.mem_of_getElem? (i := 66) rfl)))) (mvT hZ (hw _ (List.mem_of_getElem? (i := 66) rfl))) (mvT hZ (hw _ (List.mem_of_getElem? (i := 65) rfl))) (by decide) (backOf (W := 0) (rm_get9 l Z a0 hw [] b29 c29 rD T29.heap n0 O29 f29_1 f29_3) hZ (hw _ (List.mem_of_getElem? (i := 67) rfl)) (hw _ (List.mem_of_getElem? (i := 10) rfl)) (by decide) (by decide)) q31a q31c (g := (mkF m 27 #[.val (.int p1), .val (.int (3 : Int32)), .val (.ref r3), .val (.ref b29)] [(.ref b29)])) rfl (by rw [hml]; rfl) (Steps.refl _) (argsL := []) (rest := []) (lenOf pd_7 rfl) rfl (by show 2 * 0 + _ ≤ _; exact Nat.le_of_eq rfl) (hb hby at_27) (fun _ _ => ⟨rfl, e30, (by decide : 4 + 0 ≤ _), (by decide : 128 + 0 ≤ _)⟩)
    dsimp only [Pt.U, Pt.locs, Pt.cells, Pt.slots] at X31 l31 y31 z31 st31 hQ31
    subst l31 y31 z31
    obtain ⟨rfl, N31q, e31⟩ := hQ31
    have N31 := Fr.app N30 N31q
    refine own_trW st31 ?_
    show own_EndsW _ _ _ _ _ _ _ T31 (mkF m 30 #[.val (.int p1), .val (.int (3 : Int32)), .val (.ref r3), .val (.ref b29)] [(.ref rD)])
    obtain ⟨T32, X32, e32, st32⟩ := getS2 X31 hx hZ hown (host := "") (Or.inl (hw _ (List.mem_of_getElem? (i := 69) rfl))) Via.refl e31 (S_D.ext O29.2) (g := (mkF m 30 #[.val (.int p1), .val (.int (3 : Int32)), .val (.ref r3), .val (.ref b29)] [(.ref rD)])) rfl (hb hby at_30)
    refine own_stW st32 ?_
    show own_EndsW _ _ _ _ _ _ _ T32 (mkF m 33 #[.val (.int p1), .val (.int (3 : Int32)), .val (.ref r3), .val (.ref b29)] [(.ref rD), (.ref rD)])
    refine own_stW (fun _ kq => Jvm.RoadKit.acmp (g := (mkF m 33 #[.val (.int p1), .val (.int (3 : Int32)), .val (.ref r3), .val (.ref b29)] [(.ref rD), (.ref rD)])) X32 hx rfl rfl rfl (pc0 := 33) (pc' := 36) (same := true) rfl (hb hby at_33) rfl (decide_eq_true rfl) (by decide) (by decide) kq) ?_
    show own_EndsW _ _ _ _ _ _ _ T32 (mkF m 36 #[.val (.int p1), .val (.int (3 : Int32)), .val (.ref r3), .val (.ref b29)] [])
    refine own_stW (fun _ kq => XS.aloadN X32.here hx rfl (hb hby at_36) rfl rfl kq) ?_
    show own_EndsW _ _ _ _ _ _ _ T32 (mkF m 37 #[.val (.int p1), .val (.int (3 : Int32)), .val (.ref r3), .val (.ref b29)] [(.ref b29)])
    obtain ⟨cq33, kq33, q33a, q33b, q33c⟩ := isOf hZ e32 f29_0
    obtain ⟨_, _, ⟨T33, L33, k33, n33⟩, -, X33, ⟨Lc33, hQ33, l33, y33, z33⟩, st33⟩ := X32.virtualBack hx (y := (⟨"com/example/clear_tx/cleartx/TransactionDefinition", "isReadOnly", "()Z"⟩ : MethodName)) (z := (⟨"com/example/clear_tx/cleartx/TransactionDefinition", "isReadOnly", "()Z"⟩ : MethodName)) hown (mvT hZ (hw _ (List.mem_of_getElem? (i := 70) rfl))) (mvT hZ (hw _ (List.mem_of_getElem? (i := 71) rfl))) (notFace_of_selects (args := #[]) (mvT hZ (hw _ (List.mem_of_getElem? (i := 73) rfl)))) (mvT hZ (hw _ (List.mem_of_getElem? (i := 73) rfl))) (mvT hZ (hw _ (List.mem_of_getElem? (i := 72) rfl))) (by decide) (backOf (W := 0) (rm_get10 l Z a0 hw [] b29 c29 T29.heap n0 O29 f29_1 f29_4) hZ (hw _ (List.mem_of_getElem? (i := 74) rfl)) (hw _ (List.mem_of_getElem? (i := 10) rfl)) (by decide) (by decide)) q33a q33c (g := (mkF m 37 #[.val (.int p1), .val (.int (3 : Int32)), .val (.ref r3), .val (.ref b29)] [(.ref b29)])) rfl (by rw [hml]; rfl) (Steps.refl _) (argsL := []) (rest := []) (lenOf pd_8 rfl) rfl (by show 2 * 0 + _ ≤ _; exact Nat.le_of_eq rfl) (hb hby at_37) (fun _ _ => ⟨rfl, e32, (by decide : 4 + 0 ≤ _), (by decide : 128 + 0 ≤ _)⟩)
    dsimp only [Pt.U, Pt.locs, Pt.cells, Pt.slots] at X33 l33 y33 z33 st33 hQ33
    subst l33 y33 z33
    obtain ⟨rfl, N33q, e33⟩ := hQ33
    have N33 := Fr.app N31 N33q
    refine own_trW st33 ?_
    show own_EndsW _ _ _ _ _ _ _ T33 (mkF m 40 #[.val (.int p1), .val (.int (3 : Int32)), .val (.ref r3), .val (.ref b29)] [(.int (0 : Int32))])
    refine own_stW (fun _ kq => XS.ifNo X33.here hx rfl (hb hby at_40) rfl ((if0 _ _).trans (teq (by decide : (0 : Int32) = (0 : Int32))).2) kq) ?_
    show own_EndsW _ _ _ _ _ _ _ T33 (mkF m 43 #[.val (.int p1), .val (.int (3 : Int32)), .val (.ref r3), .val (.ref b29)] [])
    refine own_stW (fun _ kq => XS.aloadN X33.here hx rfl (hb hby at_43) rfl rfl kq) ?_
    show own_EndsW _ _ _ _ _ _ _ T33 (mkF m 44 #[.val (.int p1), .val (.int (3 : Int32)), .val (.ref r3), .val (.ref b29)] [(.ref b29)])
    obtain ⟨cq34, kq34, q34a, q34b, q34c⟩ := isOf hZ e33 f29_0
    obtain ⟨_, _, ⟨T34, L34, k34, n34⟩, -, X34, ⟨Lc34, hQ34, l34, y34, z34⟩, st34⟩ := X33.virtualBack hx (y := (⟨"com/example/clear_tx/cleartx/TransactionDefinition", "timeout", "()I"⟩ : MethodName)) (z := (⟨"com/example/clear_tx/cleartx/TransactionDefinition", "timeout", "()I"⟩ : MethodName)) hown (mvT hZ (hw _ (List.mem_of_getElem? (i := 77) rfl))) (mvT hZ (hw _ (List.mem_of_getElem? (i := 78) rfl))) (notFace_of_selects (args := #[]) (mvT hZ (hw _ (List.mem_of_getElem? (i := 80) rfl)))) (mvT hZ (hw _ (List.mem_of_getElem? (i := 80) rfl))) (mvT hZ (hw _ (List.mem_of_getElem? (i := 79) rfl))) (by decide) (backOf (W := 0) (rm_get11 l Z a0 hw [] b29 c29 T29.heap n0 O29 f29_1 f29_5) hZ (hw _ (List.mem_of_getElem? (i := 81) rfl)) (hw _ (List.mem_of_getElem? (i := 10) rfl)) (by decide) (by decide)) q34a q34c (g := (mkF m 44 #[.val (.int p1), .val (.int (3 : Int32)), .val (.ref r3), .val (.ref b29)] [(.ref b29)])) rfl (by rw [hml]; rfl) (Steps.refl _) (argsL := []) (rest := []) (lenOf pd_9 rfl) rfl (by show 2 * 0 + _ ≤ _; exact Nat.le_of_eq rfl) (hb hby at_44) (fun _ _ => ⟨rfl, e33, (by decide : 4 + 0 ≤ _), (by decide : 128 + 0 ≤ _)⟩)
    dsimp only [Pt.U, Pt.locs, Pt.cells, Pt.slots] at X34 l34 y34 z34 st34 hQ34
    subst l34 y34 z34
    obtain ⟨rfl, N34q, e34⟩ := hQ34
    have N34 := Fr.app N33 N34q
    refine own_trW st34 ?_
    show own_EndsW _ _ _ _ _ _ _ T34 (mkF m 47 #[.val (.int p1), .val (.int (3 : Int32)), .val (.ref r3), .val (.ref b29)] [(.int (-1 : Int32))])
    refine own_stW (fun _ kq => XS.iconst X34.here hx rfl (hb hby at_47) kq) ?_
    show own_EndsW _ _ _ _ _ _ _ T34 (mkF m 48 #[.val (.int p1), .val (.int (3 : Int32)), .val (.ref r3), .val (.ref b29)] [(.int (-1 : Int32)), (.int (-1 : Int32))])
    refine own_stW (fun _ kq => XS.icmpNo X34.here hx rfl (hb hby at_48) rfl (teq (by decide : (-1 : Int32) = (-1 : Int32))).2 kq) ?_
    show own_EndsW _ _ _ _ _ _ _ T34 (mkF m 51 #[.val (.int p1), .val (.int (3 : Int32)), .val (.ref r3), .val (.ref b29)] [])
    refine own_stW (fun _ kq => XS.aloadN X34.here hx rfl (hb hby at_51) rfl rfl kq) ?_
    show own_EndsW _ _ _ _ _ _ _ T34 (mkF m 52 #[.val (.int p1), .val (.int (3 : Int32)), .val (.ref r3), .val (.ref b29)] [(.ref b29)])
    obtain ⟨cq35, kq35, q35a, q35b, q35c⟩ := isOf hZ e34 f29_0
    obtain ⟨_, _, ⟨T35, L35, k35, n35⟩, -, X35, ⟨Lc35, hQ35, l35, y35, z35⟩, st35⟩ := X34.virtualBack hx (y := (⟨"com/example/clear_tx/cleartx/TransactionDefinition", "name", "()Ljava/lang/String;"⟩ : MethodName)) (z := (⟨"com/example/clear_tx/cleartx/TransactionDefinition", "name", "()Ljava/lang/String;"⟩ : MethodName)) hown (mvT hZ (hw _ (List.mem_of_getElem? (i := 83) rfl))) (mvT hZ (hw _ (List.mem_of_getElem? (i := 84) rfl))) (notFace_of_selects (args := #[]) (mvT hZ (hw _ (List.mem_of_getElem? (i := 86) rfl)))) (mvT hZ (hw _ (List.mem_of_getElem? (i := 86) rfl))) (mvT hZ (hw _ (List.mem_of_getElem? (i := 85) rfl))) (by decide) (backOf (W := 0) (rm_get12 l Z a0 hw [] b29 c29 T29.heap n0 O29 f29_1 f29_6) hZ (hw _ (List.mem_of_getElem? (i := 87) rfl)) (hw _ (List.mem_of_getElem? (i := 10) rfl)) (by decide) (by decide)) q35a q35c (g := (mkF m 52 #[.val (.int p1), .val (.int (3 : Int32)), .val (.ref r3), .val (.ref b29)] [(.ref b29)])) rfl (by rw [hml]; rfl) (Steps.refl _) (argsL := []) (rest := []) (lenOf pd_10 rfl) rfl (by show 2 * 0 + _ ≤ _; exact Nat.le_of_eq rfl) (hb hby at_52) (fun _ _ => ⟨rfl, e34, (by decide : 4 + 0 ≤ _), (by decide : 128 + 0 ≤ _)⟩)
    dsimp only [Pt.U, Pt.locs, Pt.cells, Pt.slots] at X35 l35 y35 z35 st35 hQ35
    subst l35 y35 z35
    obtain ⟨rfl, N35q, e35⟩ := hQ35
    have N35 := Fr.app N34 N35q
    refine own_trW st35 ?_
    show own_EndsW _ _ _ _ _ _ _ T35 (mkF m 55 #[.val (.int p1), .val (.int (3 : Int32)), .val (.ref r3), .val (.ref b29)] [.null])
    refine own_stW (fun _ kq => XS.ifnonnullNo X35.here hx rfl (hb hby at_55) rfl kq) ?_
    show own_EndsW _ _ _ _ _ _ _ T35 (mkF m 58 #[.val (.int p1), .val (.int (3 : Int32)), .val (.ref r3), .val (.ref b29)] [])
    refine own_stW (fun _ kq => XS.aloadN X35.here hx rfl (hb hby at_58) rfl rfl kq) ?_
    show own_EndsW _ _ _ _ _ _ _ T35 (mkF m 59 #[.val (.int p1), .val (.int (3 : Int32)), .val (.ref r3), .val (.ref b29)] [(.ref b29)])
    obtain ⟨cq36, kq36, q36a, q36b, q36c⟩ := isOf hZ e35 f29_0
    obtain ⟨_, _, ⟨T36, L36, k36, n36⟩, -, X36, ⟨Lc36, hQ36, l36, y36, z36⟩, st36⟩ := X35.virtualBack hx (y := (⟨"com/example/clear_tx/cleartx/TransactionDefinition", "declaredOn", "()Ljava/lang/String;"⟩ : MethodName)) (z := (⟨"com/example/clear_tx/cleartx/TransactionDefinition", "declaredOn", "()Ljava/lang/String;"⟩ : MethodName)) hown (mvT hZ (hw _ (List.mem_of_getElem? (i := 90) rfl))) (mvT hZ (hw _ (List.mem_of_getElem? (i := 91) rfl))) (notFace_of_selects (args := #[]) (mvT hZ (hw _ (List.mem_of_getElem? (i := 93) rfl)))) (mvT hZ (hw _ (List.mem_of_getElem? (i := 93) rfl))) (mvT hZ (hw _ (List.mem_of_getElem? (i := 92) rfl))) (by decide) (backOf (W := 0) (rm_get13 l Z a0 hw [] b29 c29 T29.heap n0 O29 f29_1 f29_8) hZ (hw _ (List.mem_of_getElem? (i := 94) rfl)) (hw _ (List.mem_of_getElem? (i := 10) rfl)) (by decide) (by decide)) q36a q36c (g := (mkF m 59 #[.val (.int p1), .val (.int (3 : Int32)), .val (.ref r3), .val (.ref b29)] [(.ref b29)])) rfl (by rw [hml]; rfl) (Steps.refl _) (argsL := []) (rest := []) (lenOf pd_10 rfl) rfl (by show 2 * 0 + _ ≤ _; exact Nat.le_of_eq rfl) (hb hby at_59) (fun _ _ => ⟨rfl, e35, (by decide : 4 + 0 ≤ _), (by decide : 128 + 0 ≤ _)⟩)
    dsimp only [Pt.U, Pt.locs, Pt.cells, Pt.slots] at X36 l36 y36 z36 st36 hQ36
    subst l36 y36 z36
    obtain ⟨rfl, N36q, e36⟩ := hQ36
    have N36 := Fr.app N35 N36q
    refine own_trW st36 ?_
    show own_EndsW _ _ _ _ _ _ _ T36 (mkF m 62 #[.val (.int p1), .val (.int (3 : Int32)), .val (.ref r3), .val (.ref b29)] [.null])
    refine own_stW (fun _ kq => XS.ifnonnullNo X36.here hx rfl (hb hby at_62) rfl kq) ?_
    show own_EndsW _ _ _ _ _ _ _ T36 (mkF m 65 #[.val (.int p1), .val (.int (3 : Int32)), .val (.ref r3), .val (.ref b29)] [])
    refine own_stW (fun _ kq => XS.iconst X36.here hx rfl (hb hby at_65) kq) ?_
    show own_EndsW _ _ _ _ _ _ _ T36 (mkF m 66 #[.val (.int p1), .val (.int (3 : Int32)), .val (.ref r3), .val (.ref b29)] [(.int (1 : Int32))])
    refine own_stW (fun _ kq => XS.goto X36.here hx rfl (pc0 := 66) (pc' := 70) rfl (hb hby at_66) (by decide) (by decide) kq) ?_
    show own_EndsW _ _ _ _ _ _ _ T36 (mkF m 70 #[.val (.int p1), .val (.int (3 : Int32)), .val (.ref r3), .val (.ref b29)] [(.int (1 : Int32))])
    refine own_retNW X36 hS (by rw [e36]; exact hk) hx (t := .boolean) Bd.returns (by simp) (hb hby at_70) hlk (by decide) (by decide) (w := (1 : Int32)) (by decide) ?_
    show Q_rm_law Z p1 r0 rD r3 r5 r6 r4 r2 r1 rL h0 n0 _ T36.heap _
    rw [e36]
    exact ⟨rfl, N36⟩
  · rw [ej]
    show own_EndsW _ _ _ _ _ _ _ s₁ (mkF m 7 #[.val (.int p1), .unset, .unset, .unset] [(.int (4 : Int32))])
    refine own_stW (fun _ kq => XS.istoreN X0.here hx rfl (hb hby at_7) rfl (l' := #[.val (.int p1), .val (.int (4 : Int32)), .unset, .unset]) rfl kq) ?_
    show own_EndsW _ _ _ _ _ _ _ s₁ (mkF m 8 #[.val (.int p1), .val (.int (4 : Int32)), .unset, .unset] [])
    refine own_stW (fun _ kq => XS.iloadN X0.here hx rfl (hb hby at_8) rfl kq) ?_
    show own_EndsW _ _ _ _ _ _ _ s₁ (mkF m 9 #[.val (.int p1), .val (.int (4 : Int32)), .unset, .unset] [(.int (4 : Int32))])
    obtain ⟨_, _, ⟨T37, L37, k37, n37⟩, -, X37, ⟨Lc37, hQ37, l37, y37, z37⟩, st37⟩ := Jvm.LawKit.callS X0 hx (y := (⟨"com/example/clear_tx/cleartx/TransactionDefinitionOfPinLaw", "pick", "(I)Lcom/example/clear_tx/cleartx/Propagation;"⟩ : MethodName)) hown (mvT hZ (hw _ (List.mem_of_getElem? (i := 1) rfl))) (mvT hZ (hw _ (List.mem_of_getElem? (i := 2) rfl))) (mvT hZ (hw _ (List.mem_of_getElem? (i := 3) rfl))) (mvT hZ (hw _ (List.mem_of_getElem? (i := 4) rfl))) (by decide) (backOf (W := 0) (rm_pick4 l Z a0 hw [] r0 rD r3 r5 r6 r4 r2 r1 rL h0 n0 O0 G) hZ (hw _ (List.mem_of_getElem? (i := 4) rfl)) (hw _ (List.mem_of_getElem? (i := 3) rfl)) (by decide) (by decide)) (g := (mkF m 9 #[.val (.int p1), .val (.int (4 : Int32)), .unset, .unset] [(.int (4 : Int32))])) rfl (by rw [hml]; rfl) (argsL := [(.int (4 : Int32))]) (rest := []) (lenOf pd_0 rfl) rfl (by show 2 * 0 + _ ≤ _; exact Nat.le_of_eq rfl) (hb hby at_9) (fun _ _ => ⟨rfl, e0, (by decide : 0 + 0 ≤ _), (by decide : 0 + 0 ≤ _)⟩)
    dsimp only [Pt.U, Pt.locs, Pt.cells, Pt.slots] at X37 l37 y37 z37 st37 hQ37
    subst l37 y37 z37
    obtain ⟨rfl, N37q, e37⟩ := hQ37
    have N37 := Fr.app N0 N37q
    refine own_stW st37 ?_
    show own_EndsW _ _ _ _ _ _ _ T37 (mkF m 12 #[.val (.int p1), .val (.int (4 : Int32)), .unset, .unset] [(.ref r4)])
    refine own_stW (fun _ kq => XS.astoreN X37.here hx rfl (hb hby at_12) rfl rfl (l' := #[.val (.int p1), .val (.int (4 : Int32)), .val (.ref r4), .unset]) rfl kq) ?_
    show own_EndsW _ _ _ _ _ _ _ T37 (mkF m 13 #[.val (.int p1), .val (.int (4 : Int32)), .val (.ref r4), .unset] [])
    refine own_stW (fun _ kq => XS.aloadN X37.here hx rfl (hb hby at_13) rfl rfl kq) ?_
    show own_EndsW _ _ _ _ _ _ _ T37 (mkF m 14 #[.val (.int p1), .val (.int (4 : Int32)), .val (.ref r4), .unset] [(.ref r4)])
    obtain ⟨_, _, ⟨T38, L38, k38, n38⟩, -, X38, hS2, hgr, ⟨Lc38, hQ38, l38, y38, z38⟩, st38⟩ := Jvm.RoadKit.callSS X37 hx (y := (⟨"com/example/clear_tx/cleartx/TransactionDefinition", "of", "(Lcom/example/clear_tx/cleartx/Propagation;)Lcom/example/clear_tx/cleartx/TransactionDefinition;"⟩ : MethodName)) hown (mvT hZ (hw _ (List.mem_of_getElem? (i := 8) rfl))) (mvT hZ (hw _ (List.mem_of_getElem? (i := 9) rfl))) (mvT hZ (hw _ (List.mem_of_getElem? (i := 10) rfl))) (mvT hZ (hw _ (List.mem_of_getElem? (i := 11) rfl))) (by decide) (backOfS (W := 0) (rm_of l Z a0 hw [] r4 r0 rD r3 r5 r6 r4 r2 r1 rL h0 n0 O0 G) hZ (hw _ (List.mem_of_getElem? (i := 11) rfl)) (hw _ (List.mem_of_getElem? (i := 10) rfl)) (by decide) (by decide)) (g := (mkF m 14 #[.val (.int p1), .val (.int (4 : Int32)), .val (.ref r4), .unset] [(.ref r4)])) rfl (by rw [hml]; rfl) (argsL := [(.ref r4)]) (rest := []) (lenOf pd_1 rfl) rfl (by show 2 * 0 + _ ≤ _; exact Nat.le_of_eq rfl) (hb hby at_14) (fun _ _ => ⟨rfl, e37, (by decide : 0 + 4 ≤ _), (by decide : 0 + 128 ≤ _)⟩)
    dsimp only [Pt.U, Pt.locs, Pt.cells, Pt.slots] at X38 l38 y38 z38 st38 hQ38 hS2 hgr
    subst l38 y38 z38
    have X38 : Stand p l e room_1 (s.setVm T38.vm) m #[(.int p1)] below meth c T38 _ _ _ := X38
    have hS := foldS hS (show _ ≤ T37.heap.size by rw [e37]; exact hk) hS2 hgr
    have hk := Nat.le_refl T38.heap.size
    have hZ : Z.Warmed39 (s.setVm T38.vm).vm := State.Warmed39.trans hZ hS2.1
    have hown : (s.setVm T38.vm).vm.findClass "com/example/clear_tx/cleartx/TransactionDefinitionOfPinLaw" = some m.cls := by rw [show (s.setVm T38.vm).vm = T38.vm from rfl, hS2.1.alike.findClass]; exact hown
    obtain ⟨b38, c38, rfl, N38q, K38, O38, f38_0, f38_1, f38_2, f38_3, f38_4, f38_5, f38_6, f38_7, f38_8⟩ := hQ38
    have N38 := Fr.app N37 N38q
    refine own_trW st38 ?_
    show own_EndsW _ _ _ _ _ _ _ T38 (mkF m 17 #[.val (.int p1), .val (.int (4 : Int32)), .val (.ref r4), .unset] [(.ref b38)])
    refine own_stW (fun _ kq => XS.astoreN X38.here hx rfl (hb hby at_17) rfl rfl (l' := #[.val (.int p1), .val (.int (4 : Int32)), .val (.ref r4), .val (.ref b38)]) rfl kq) ?_
    show own_EndsW _ _ _ _ _ _ _ T38 (mkF m 18 #[.val (.int p1), .val (.int (4 : Int32)), .val (.ref r4), .val (.ref b38)] [])
    refine own_stW (fun _ kq => XS.aloadN X38.here hx rfl (hb hby at_18) rfl rfl kq) ?_
    show own_EndsW _ _ _ _ _ _ _ T38 (mkF m 19 #[.val (.int p1), .val (.int (4 : Int32)), .val (.ref r4), .val (.ref b38)] [(.ref b38)])
    obtain ⟨cq39, kq39, q39a, q39b, q39c⟩ := isOf hZ rfl f38_0
    obtain ⟨_, _, ⟨T39, L39, k39, n39⟩, -, X39, ⟨Lc39, hQ39, l39, y39, z39⟩, st39⟩ := X38.virtualBack hx (y := (⟨"com/example/clear_tx/cleartx/TransactionDefinition", "propagation", "()Lcom/example/clear_tx/cleartx/Propagation;"⟩ : MethodName)) (z := (⟨"com/example/clear_tx/cleartx/TransactionDefinition", "propagation", "()Lcom/example/clear_tx/cleartx/Propagation;"⟩ : MethodName)) hown (mvT hZ (hw _ (List.mem_of_getElem? (i := 58) rfl))) (mvT hZ (hw _ (List.mem_of_getElem? (i := 59) rfl))) (notFace_of_selects (args := #[]) (mvT hZ (hw _ (List.mem_of_getElem? (i := 61) rfl)))) (mvT hZ (hw _ (List.mem_of_getElem? (i := 61) rfl))) (mvT hZ (hw _ (List.mem_of_getElem? (i := 60) rfl))) (by decide) (backOf (W := 0) (rm_get8 l Z a0 hw [] b38 c38 r4 T38.heap n0 O38 f38_1 f38_2) hZ (hw _ (List.mem_of_getElem? (i := 62) rfl)) (hw _ (List.mem_of_getElem? (i := 10) rfl)) (by decide) (by decide)) q39a q39c (g := (mkF m 19 #[.val (.int p1), .val (.int (4 : Int32)), .val (.ref r4), .val (.ref b38)] [(.ref b38)])) rfl (by rw [hml]; rfl) (Steps.refl _) (argsL := []) (rest := []) (lenOf pd_6 rfl) rfl (by show 2 * 0 + _ ≤ _; exact Nat.le_of_eq rfl) (hb hby at_19) (fun _ _ => ⟨rfl, rfl, (by decide : 4 + 0 ≤ _), (by decide : 128 + 0 ≤ _)⟩)
    dsimp only [Pt.U, Pt.locs, Pt.cells, Pt.slots] at X39 l39 y39 z39 st39 hQ39
    subst l39 y39 z39
    obtain ⟨rfl, N39q, e39⟩ := hQ39
    have N39 := Fr.app N38 N39q
    refine own_trW st39 ?_
    show own_EndsW _ _ _ _ _ _ _ T39 (mkF m 22 #[.val (.int p1), .val (.int (4 : Int32)), .val (.ref r4), .val (.ref b38)] [(.ref r4)])
    refine own_stW (fun _ kq => XS.aloadN X39.here hx rfl (hb hby at_22) rfl rfl kq) ?_
    show own_EndsW _ _ _ _ _ _ _ T39 (mkF m 23 #[.val (.int p1), .val (.int (4 : Int32)), .val (.ref r4), .val (.ref b38)] [(.ref r4), (.ref r4)])
    refine own_stW (fun _ kq => Jvm.RoadKit.acmp (g := (mkF m 23 #[.val (.int p1), .val (.int (4 : Int32)), .val (.ref r4), .val (.ref b38)] [(.ref r4), (.ref r4)])) X39 hx rfl rfl rfl (pc0 := 23) (pc' := 26) (same := true) rfl (hb hby at_23) rfl (decide_eq_true rfl) (by decide) (by decide) kq) ?_
    show own_EndsW _ _ _ _ _ _ _ T39 (mkF m 26 #[.val (.int p1), .val (.int (4 : Int32)), .val (.ref r4), .val (.ref b38)] [])
    refine own_stW (fun _ kq => XS.aloadN X39.here hx rfl (hb hby at_26) rfl rfl kq) ?_
    show own_EndsW _ _ _ _ _ _ _ T39 (mkF m 27 #[.val (.int p1), .val (.int (4 : Int32)), .val (.ref r4), .val (.ref b38)] [(.ref b38)])
    obtain ⟨cq40, kq40, q40a, q40b, q40c⟩ := isOf hZ e39 f38_0
    obtain ⟨_, _, ⟨T40, L40, k40, n40⟩, -, X40, ⟨Lc40, hQ40, l40, y40, z40⟩, st40⟩ := X39.virtualBack hx (y := (⟨"com/example/clear_tx/cleartx/TransactionDefinition", "isolation", "()Lcom/example/clear_tx/cleartx/Isolation;"⟩ : MethodName)) (z := (⟨"com/example/clear_tx/cleartx/TransactionDefinition", "isolation", "()Lcom/example/clear_tx/cleartx/Isolation;"⟩ : MethodName)) hown (mvT hZ (hw _ (List.mem_of_getElem? (i := 63) rfl))) (mvT hZ (hw _ (List.mem_of_getElem? (i := 64) rfl))) (notFace_of_selects (args := #[]) (mvT hZ (hw _ (List.mem_of_getElem? (i := 66) rfl)))) (mvT hZ (hw _ (List.mem_of_getElem? (i := 66) rfl))) (mvT hZ (hw _ (List.mem_of_getElem? (i := 65) rfl))) (by decide) (backOf (W := 0) (rm_get9 l Z a0 hw [] b38 c38 rD T38.heap n0 O38 f38_1 f38_3) hZ (hw _ (List.mem_of_getElem? (i := 67) rfl)) (hw _ (List.mem_of_getElem? (i := 10) rfl)) (by decide) (by decide)) q40a q40c (g := (mkF m 27 #[.val (.int p1), .val (.int (4 : Int32)), .val (.ref r4), .val (.ref b38)] [(.ref b38)])) rfl (by rw [hml]; rfl) (Steps.refl _) (argsL := []) (rest := []) (lenOf pd_7 rfl) rfl (by show 2 * 0 + _ ≤ _; exact Nat.le_of_eq rfl) (hb hby at_27) (fun _ _ => ⟨rfl, e39, (by decide : 4 + 0 ≤ _), (by decide : 128 + 0 ≤ _)⟩)
    dsimp only [Pt.U, Pt.locs, Pt.cells, Pt.slots] at X40 l40 y40 z40 st40 hQ40
    subst l40 y40 z40
    obtain ⟨rfl, N40q, e40⟩ := hQ40
    have N40 := Fr.app N39 N40q
    refine own_trW st40 ?_
    show own_EndsW _ _ _ _ _ _ _ T40 (mkF m 30 #[.val (.int p1), .val (.int (4 : Int32)), .val (.ref r4), .val (.ref b38)] [(.ref rD)])
    obtain ⟨T41, X41, e41, st41⟩ := getS2 X40 hx hZ hown (host := "") (Or.inl (hw _ (List.mem_of_getElem? (i := 69) rfl))) Via.refl e40 (S_D.ext O38.2) (g := (mkF m 30 #[.val (.int p1), .val (.int (4 : Int32)), .val (.ref r4), .val (.ref b38)] [(.ref rD)])) rfl (hb hby at_30)
    refine own_stW st41 ?_
    show own_EndsW _ _ _ _ _ _ _ T41 (mkF m 33 #[.val (.int p1), .val (.int (4 : Int32)), .val (.ref r4), .val (.ref b38)] [(.ref rD), (.ref rD)])
    refine own_stW (fun _ kq => Jvm.RoadKit.acmp (g := (mkF m 33 #[.val (.int p1), .val (.int (4 : Int32)), .val (.ref r4), .val (.ref b38)] [(.ref rD), (.ref rD)])) X41 hx rfl rfl rfl (pc0 := 33) (pc' := 36) (same := true) rfl (hb hby at_33) rfl (decide_eq_true rfl) (by decide) (by decide) kq) ?_
    show own_EndsW _ _ _ _ _ _ _ T41 (mkF m 36 #[.val (.int p1), .val (.int (4 : Int32)), .val (.ref r4), .val (.ref b38)] [])
    refine own_stW (fun _ kq => XS.aloadN X41.here hx rfl (hb hby at_36) rfl rfl kq) ?_
    show own_EndsW _ _ _ _ _ _ _ T41 (mkF m 37 #[.val (.int p1), .val (.int (4 : Int32)), .val (.ref r4), .val (.ref b38)] [(.ref b38)])
    obtain ⟨cq42, kq42, q42a, q42b, q42c⟩ := isOf hZ e41 f38_0
    obtain ⟨_, _, ⟨T42, L42, k42, n42⟩, -, X42, ⟨Lc42, hQ42, l42, y42, z42⟩, st42⟩ := X41.virtualBack hx (y := (⟨"com/example/clear_tx/cleartx/TransactionDefinition", "isReadOnly", "()Z"⟩ : MethodName)) (z := (⟨"com/example/clear_tx/cleartx/TransactionDefinition", "isReadOnly", "()Z"⟩ : MethodName)) hown (mvT hZ (hw _ (List.mem_of_getElem? (i := 70) rfl))) (mvT hZ (hw _ (List.mem_of_getElem? (i := 71) rfl))) (notFace_of_selects (args := #[]) (mvT hZ (hw _ (List.mem_of_getElem? (i := 73) rfl)))) (mvT hZ (hw _ (List.mem_of_getElem? (i := 73) rfl))) (mvT hZ (hw _ (List.mem_of_getElem? (i := 72) rfl))) (by decide) (backOf (W := 0) (rm_get10 l Z a0 hw [] b38 c38 T38.heap n0 O38 f38_1 f38_4) hZ (hw _ (List.mem_of_getElem? (i := 74) rfl)) (hw _ (List.mem_of_getElem? (i := 10) rfl)) (by decide) (by decide)) q42a q42c (g := (mkF m 37 #[.val (.int p1), .val (.int (4 : Int32)), .val (.ref r4), .val (.ref b38)] [(.ref b38)])) rfl (by rw [hml]; rfl) (Steps.refl _) (argsL := []) (rest := []) (lenOf pd_8 rfl) rfl (by show 2 * 0 + _ ≤ _; exact Nat.le_of_eq rfl) (hb hby at_37) (fun _ _ => ⟨rfl, e41, (by decide : 4 + 0 ≤ _), (by decide : 128 + 0 ≤ _)⟩)
    dsimp only [Pt.U, Pt.locs, Pt.cells, Pt.slots] at X42 l42 y42 z42 st42 hQ42
    subst l42 y42 z42
    obtain ⟨rfl, N42q, e42⟩ := hQ42
    have N42 := Fr.app N40 N42q
    refine own_trW st42 ?_
    show own_EndsW _ _ _ _ _ _ _ T42 (mkF m 40 #[.val (.int p1), .val (.int (4 : Int32)), .val (.ref r4), .val (.ref b38)] [(.int (0 : Int32))])
    refine own_stW (fun _ kq => XS.ifNo X42.here hx rfl (hb hby at_40) rfl ((if0 _ _).trans (teq (by decide : (0 : Int32) = (0 : Int32))).2) kq) ?_
    show own_EndsW _ _ _ _ _ _ _ T42 (mkF m 43 #[.val (.int p1), .val (.int (4 : Int32)), .val (.ref r4), .val (.ref b38)] [])
    refine own_stW (fun _ kq => XS.aloadN X42.here hx rfl (hb hby at_43) rfl rfl kq) ?_
    show own_EndsW _ _ _ _ _ _ _ T42 (mkF m 44 #[.val (.int p1), .val (.int (4 : Int32)), .val (.ref r4), .val (.ref b38)] [(.ref b38)])
    obtain ⟨cq43, kq43, q43a, q43b, q43c⟩ := isOf hZ e42 f38_0
    obtain ⟨_, _, ⟨T43, L43, k43, n43⟩, -, X43, ⟨Lc43, hQ43, l43, y43, z43⟩, st43⟩ := X42.virtualBack hx (y := (⟨"com/example/clear_tx/cleartx/TransactionDefinition", "timeout", "()I"⟩ : MethodName)) (z := (⟨"com/example/clear_tx/cleartx/TransactionDefinition", "timeout", "()I"⟩ : MethodName)) hown (mvT hZ (hw _ (List.mem_of_getElem? (i := 77) rfl))) (mvT hZ (hw _ (List.mem_of_getElem? (i := 78) rfl))) (notFace_of_selects (args := #[]) (mvT hZ (hw _ (List.mem_of_getElem? (i := 80) rfl)))) (mvT hZ (hw _ (List.mem_of_getElem? (i := 80) rfl))) (mvT hZ (hw _ (List.mem_of_getElem? (i := 79) rfl))) (by decide) (backOf (W := 0) (rm_get11 l Z a0 hw [] b38 c38 T38.heap n0 O38 f38_1 f38_5) hZ (hw _ (List.mem_of_getElem? (i := 81) rfl)) (hw _ (List.mem_of_getElem? (i := 10) rfl)) (by decide) (by decide)) q43a q43c (g := (mkF m 44 #[.val (.int p1), .val (.int (4 : Int32)), .val (.ref r4), .val (.ref b38)] [(.ref b38)])) rfl (by rw [hml]; rfl) (Steps.refl _) (argsL := []) (rest := []) (lenOf pd_9 rfl) rfl (by show 2 * 0 + _ ≤ _; exact Nat.le_of_eq rfl) (hb hby at_44) (fun _ _ => ⟨rfl, e42, (by decide : 4 + 0 ≤ _), (by decide : 128 + 0 ≤ _)⟩)
    dsimp only [Pt.U, Pt.locs, Pt.cells, Pt.slots] at X43 l43 y43 z43 st43 hQ43
    subst l43 y43 z43
    obtain ⟨rfl, N43q, e43⟩ := hQ43
    have N43 := Fr.app N42 N43q
    refine own_trW st43 ?_
    show own_EndsW _ _ _ _ _ _ _ T43 (mkF m 47 #[.val (.int p1), .val (.int (4 : Int32)), .val (.ref r4), .val (.ref b38)] [(.int (-1 : Int32))])
    refine own_stW (fun _ kq => XS.iconst X43.here hx rfl (hb hby at_47) kq) ?_
    show own_EndsW _ _ _ _ _ _ _ T43 (mkF m 48 #[.val (.int p1), .val (.int (4 : Int32)), .val (.ref r4), .val (.ref b38)] [(.int (-1 : Int32)), (.int (-1 : Int32))])
    refine own_stW (fun _ kq => XS.icmpNo X43.here hx rfl (hb hby at_48) rfl (teq (by decide : (-1 : Int32) = (-1 : Int32))).2 kq) ?_
    show own_EndsW _ _ _ _ _ _ _ T43 (mkF m 51 #[.val (.int p1), .val (.int (4 : Int32)), .val (.ref r4), .val (.ref b38)] [])
    refine own_stW (fun _ kq => XS.aloadN X43.here hx rfl (hb hby at_51) rfl rfl kq) ?_
    show own_EndsW _ _ _ _ _ _ _ T43 (mkF m 52 #[.val (.int p1), .val (.int (4 : Int32)), .val (.ref r4), .val (.ref b38)] [(.ref b38)])
    obtain ⟨cq44, kq44, q44a, q44b, q44c⟩ := isOf hZ e43 f38_0
    obtain ⟨_, _, ⟨T44, L44, k44, n44⟩, -, X44, ⟨Lc44, hQ44, l44, y44, z44⟩, st44⟩ := X43.virtualBack hx (y := (⟨"com/example/clear_tx/cleartx/TransactionDefinition", "name", "()Ljava/lang/String;"⟩ : MethodName)) (z := (⟨"com/example/clear_tx/cleartx/TransactionDefinition", "name", "()Ljava/lang/String;"⟩ : MethodName)) hown (mvT hZ (hw _ (List.mem_of_getElem? (i := 83) rfl))) (mvT hZ (hw _ (List.mem_of_getElem? (i := 84) rfl))) (notFace_of_selects (args := #[]) (mvT hZ (hw _ (List.mem_of_getElem? (i := 86) rfl)))) (mvT hZ (hw _ (List.mem_of_getElem? (i := 86) rfl))) (mvT hZ (hw _ (List.mem_of_getElem? (i := 85) rfl))) (by decide) (backOf (W := 0) (rm_get12 l Z a0 hw [] b38 c38 T38.heap n0 O38 f38_1 f38_6) hZ (hw _ (List.mem_of_getElem? (i := 87) rfl)) (hw _ (List.mem_of_getElem? (i := 10) rfl)) (by decide) (by decide)) q44a q44c (g := (mkF m 52 #[.val (.int p1), .val (.int (4 : Int32)), .val (.ref r4), .val (.ref b38)] [(.ref b38)])) rfl (by rw [hml]; rfl) (Steps.refl _) (argsL := []) (rest := []) (lenOf pd_10 rfl) rfl (by show 2 * 0 + _ ≤ _; exact Nat.le_of_eq rfl) (hb hby at_52) (fun _ _ => ⟨rfl, e43, (by decide : 4 + 0 ≤ _), (by decide : 128 + 0 ≤ _)⟩)
    dsimp only [Pt.U, Pt.locs, Pt.cells, Pt.slots] at X44 l44 y44 z44 st44 hQ44
    subst l44 y44 z44
    obtain ⟨rfl, N44q, e44⟩ := hQ44
    have N44 := Fr.app N43 N44q
    refine own_trW st44 ?_
    show own_EndsW _ _ _ _ _ _ _ T44 (mkF m 55 #[.val (.int p1), .val (.int (4 : Int32)), .val (.ref r4), .val (.ref b38)] [.null])
    refine own_stW (fun _ kq => XS.ifnonnullNo X44.here hx rfl (hb hby at_55) rfl kq) ?_
    show own_EndsW _ _ _ _ _ _ _ T44 (mkF m 58 #[.val (.int p1), .val (.int (4 : Int32)), .val (.ref r4), .val (.ref b38)] [])
    refine own_stW (fun _ kq => XS.aloadN X44.here hx rfl (hb hby at_58) rfl rfl kq) ?_
    show own_EndsW _ _ _ _ _ _ _ T44 (mkF m 59 #[.val (.int p1), .val (.int (4 : Int32)), .val (.ref r4), .val (.ref b38)] [(.ref b38)])
    obtain ⟨cq45, kq45, q45a, q45b, q45c⟩ := isOf hZ e44 f38_0
    obtain ⟨_, _, ⟨T45, L45, k45, n45⟩, -, X45, ⟨Lc45, hQ45, l45, y45, z45⟩, st45⟩ := X44.virtualBack hx (y := (⟨"com/example/clear_tx/cleartx/TransactionDefinition", "declaredOn", "()Ljava/lang/String;"⟩ : MethodName)) (z := (⟨"com/example/clear_tx/cleartx/TransactionDefinition", "declaredOn", "()Ljava/lang/String;"⟩ : MethodName)) hown (mvT hZ (hw _ (List.mem_of_getElem? (i := 90) rfl))) (mvT hZ (hw _ (List.mem_of_getElem? (i := 91) rfl))) (notFace_of_selects (args := #[]) (mvT hZ (hw _ (List.mem_of_getElem? (i := 93) rfl)))) (mvT hZ (hw _ (List.mem_of_getElem? (i := 93) rfl))) (mvT hZ (hw _ (List.mem_of_getElem? (i := 92) rfl))) (by decide) (backOf (W := 0) (rm_get13 l Z a0 hw [] b38 c38 T38.heap n0 O38 f38_1 f38_8) hZ (hw _ (List.mem_of_getElem? (i := 94) rfl)) (hw _ (List.mem_of_getElem? (i := 10) rfl)) (by decide) (by decide)) q45a q45c (g := (mkF m 59 #[.val (.int p1), .val (.int (4 : Int32)), .val (.ref r4), .val (.ref b38)] [(.ref b38)])) rfl (by rw [hml]; rfl) (Steps.refl _) (argsL := []) (rest := []) (lenOf pd_10 rfl) rfl (by show 2 * 0 + _ ≤ _; exact Nat.le_of_eq rfl) (hb hby at_59) (fun _ _ => ⟨rfl, e44, (by decide : 4 + 0 ≤ _), (by decide : 128 + 0 ≤ _)⟩)
    dsimp only [Pt.U, Pt.locs, Pt.cells, Pt.slots] at X45 l45 y45 z45 st45 hQ45
    subst l45 y45 z45
    obtain ⟨rfl, N45q, e45⟩ := hQ45
    have N45 := Fr.app N44 N45q
    refine own_trW st45 ?_
    show own_EndsW _ _ _ _ _ _ _ T45 (mkF m 62 #[.val (.int p1), .val (.int (4 : Int32)), .val (.ref r4), .val (.ref b38)] [.null])
    refine own_stW (fun _ kq => XS.ifnonnullNo X45.here hx rfl (hb hby at_62) rfl kq) ?_
    show own_EndsW _ _ _ _ _ _ _ T45 (mkF m 65 #[.val (.int p1), .val (.int (4 : Int32)), .val (.ref r4), .val (.ref b38)] [])
    refine own_stW (fun _ kq => XS.iconst X45.here hx rfl (hb hby at_65) kq) ?_
    show own_EndsW _ _ _ _ _ _ _ T45 (mkF m 66 #[.val (.int p1), .val (.int (4 : Int32)), .val (.ref r4), .val (.ref b38)] [(.int (1 : Int32))])
    refine own_stW (fun _ kq => XS.goto X45.here hx rfl (pc0 := 66) (pc' := 70) rfl (hb hby at_66) (by decide) (by decide) kq) ?_
    show own_EndsW _ _ _ _ _ _ _ T45 (mkF m 70 #[.val (.int p1), .val (.int (4 : Int32)), .val (.ref r4), .val (.ref b38)] [(.int (1 : Int32))])
    refine own_retNW X45 hS (by rw [e45]; exact hk) hx (t := .boolean) Bd.returns (by simp) (hb hby at_70) hlk (by decide) (by decide) (w := (1 : Int32)) (by decide) ?_
    show Q_rm_law Z p1 r0 rD r3 r5 r6 r4 r2 r1 rL h0 n0 _ T45.heap _
    rw [e45]
    exact ⟨rfl, N45⟩
  · rw [ej]
    show own_EndsW _ _ _ _ _ _ _ s₁ (mkF m 7 #[.val (.int p1), .unset, .unset, .unset] [(.int (5 : Int32))])
    refine own_stW (fun _ kq => XS.istoreN X0.here hx rfl (hb hby at_7) rfl (l' := #[.val (.int p1), .val (.int (5 : Int32)), .unset, .unset]) rfl kq) ?_
    show own_EndsW _ _ _ _ _ _ _ s₁ (mkF m 8 #[.val (.int p1), .val (.int (5 : Int32)), .unset, .unset] [])
    refine own_stW (fun _ kq => XS.iloadN X0.here hx rfl (hb hby at_8) rfl kq) ?_
    show own_EndsW _ _ _ _ _ _ _ s₁ (mkF m 9 #[.val (.int p1), .val (.int (5 : Int32)), .unset, .unset] [(.int (5 : Int32))])
    obtain ⟨_, _, ⟨T46, L46, k46, n46⟩, -, X46, ⟨Lc46, hQ46, l46, y46, z46⟩, st46⟩ := Jvm.LawKit.callS X0 hx (y := (⟨"com/example/clear_tx/cleartx/TransactionDefinitionOfPinLaw", "pick", "(I)Lcom/example/clear_tx/cleartx/Propagation;"⟩ : MethodName)) hown (mvT hZ (hw _ (List.mem_of_getElem? (i := 1) rfl))) (mvT hZ (hw _ (List.mem_of_getElem? (i := 2) rfl))) (mvT hZ (hw _ (List.mem_of_getElem? (i := 3) rfl))) (mvT hZ (hw _ (List.mem_of_getElem? (i := 4) rfl))) (by decide) (backOf (W := 0) (rm_pick5 l Z a0 hw [] r0 rD r3 r5 r6 r4 r2 r1 rL h0 n0 O0 G) hZ (hw _ (List.mem_of_getElem? (i := 4) rfl)) (hw _ (List.mem_of_getElem? (i := 3) rfl)) (by decide) (by decide)) (g := (mkF m 9 #[.val (.int p1), .val (.int (5 : Int32)), .unset, .unset] [(.int (5 : Int32))])) rfl (by rw [hml]; rfl) (argsL := [(.int (5 : Int32))]) (rest := []) (lenOf pd_0 rfl) rfl (by show 2 * 0 + _ ≤ _; exact Nat.le_of_eq rfl) (hb hby at_9) (fun _ _ => ⟨rfl, e0, (by decide : 0 + 0 ≤ _), (by decide : 0 + 0 ≤ _)⟩)
    dsimp only [Pt.U, Pt.locs, Pt.cells, Pt.slots] at X46 l46 y46 z46 st46 hQ46
    subst l46 y46 z46
    obtain ⟨rfl, N46q, e46⟩ := hQ46
    have N46 := Fr.app N0 N46q
    refine own_stW st46 ?_
    show own_EndsW _ _ _ _ _ _ _ T46 (mkF m 12 #[.val (.int p1), .val (.int (5 : Int32)), .unset, .unset] [(.ref r5)])
    refine own_stW (fun _ kq => XS.astoreN X46.here hx rfl (hb hby at_12) rfl rfl (l' := #[.val (.int p1), .val (.int (5 : Int32)), .val (.ref r5), .unset]) rfl kq) ?_
    show own_EndsW _ _ _ _ _ _ _ T46 (mkF m 13 #[.val (.int p1), .val (.int (5 : Int32)), .val (.ref r5), .unset] [])
    refine own_stW (fun _ kq => XS.aloadN X46.here hx rfl (hb hby at_13) rfl rfl kq) ?_
    show own_EndsW _ _ _ _ _ _ _ T46 (mkF m 14 #[.val (.int p1), .val (.int (5 : Int32)), .val (.ref r5), .unset] [(.ref r5)])
    obtain ⟨_, _, ⟨T47, L47, k47, n47⟩, -, X47, hS2, hgr, ⟨Lc47, hQ47, l47, y47, z47⟩, st47⟩ := Jvm.RoadKit.callSS X46 hx (y := (⟨"com/example/clear_tx/cleartx/TransactionDefinition", "of", "(Lcom/example/clear_tx/cleartx/Propagation;)Lcom/example/clear_tx/cleartx/TransactionDefinition;"⟩ : MethodName)) hown (mvT hZ (hw _ (List.mem_of_getElem? (i := 8) rfl))) (mvT hZ (hw _ (List.mem_of_getElem? (i := 9) rfl))) (mvT hZ (hw _ (List.mem_of_getElem? (i := 10) rfl))) (mvT hZ (hw _ (List.mem_of_getElem? (i := 11) rfl))) (by decide) (backOfS (W := 0) (rm_of l Z a0 hw [] r5 r0 rD r3 r5 r6 r4 r2 r1 rL h0 n0 O0 G) hZ (hw _ (List.mem_of_getElem? (i := 11) rfl)) (hw _ (List.mem_of_getElem? (i := 10) rfl)) (by decide) (by decide)) (g := (mkF m 14 #[.val (.int p1), .val (.int (5 : Int32)), .val (.ref r5), .unset] [(.ref r5)])) rfl (by rw [hml]; rfl) (argsL := [(.ref r5)]) (rest := []) (lenOf pd_1 rfl) rfl (by show 2 * 0 + _ ≤ _; exact Nat.le_of_eq rfl) (hb hby at_14) (fun _ _ => ⟨rfl, e46, (by decide : 0 + 4 ≤ _), (by decide : 0 + 128 ≤ _)⟩)
    dsimp only [Pt.U, Pt.locs, Pt.cells, Pt.slots] at X47 l47 y47 z47 st47 hQ47 hS2 hgr
    subst l47 y47 z47
    have X47 : Stand p l e room_1 (s.setVm T47.vm) m #[(.int p1)] below meth c T47 _ _ _ := X47
    have hS := foldS hS (show _ ≤ T46.heap.size by rw [e46]; exact hk) hS2 hgr
    have hk := Nat.le_refl T47.heap.size
    have hZ : Z.Warmed39 (s.setVm T47.vm).vm := State.Warmed39.trans hZ hS2.1
    have hown : (s.setVm T47.vm).vm.findClass "com/example/clear_tx/cleartx/TransactionDefinitionOfPinLaw" = some m.cls := by rw [show (s.setVm T47.vm).vm = T47.vm from rfl, hS2.1.alike.findClass]; exact hown
    obtain ⟨b47, c47, rfl, N47q, K47, O47, f47_0, f47_1, f47_2, f47_3, f47_4, f47_5, f47_6, f47_7, f47_8⟩ := hQ47
    have N47 := Fr.app N46 N47q
    refine own_trW st47 ?_
    show own_EndsW _ _ _ _ _ _ _ T47 (mkF m 17 #[.val (.int p1), .val (.int (5 : Int32)), .val (.ref r5), .unset] [(.ref b47)])
    refine own_stW (fun _ kq => XS.astoreN X47.here hx rfl (hb hby at_17) rfl rfl (l' := #[.val (.int p1), .val (.int (5 : Int32)), .val (.ref r5), .val (.ref b47)]) rfl kq) ?_
    show own_EndsW _ _ _ _ _ _ _ T47 (mkF m 18 #[.val (.int p1), .val (.int (5 : Int32)), .val (.ref r5), .val (.ref b47)] [])
    refine own_stW (fun _ kq => XS.aloadN X47.here hx rfl (hb hby at_18) rfl rfl kq) ?_
    show own_EndsW _ _ _ _ _ _ _ T47 (mkF m 19 #[.val (.int p1), .val (.int (5 : Int32)), .val (.ref r5), .val (.ref b47)] [(.ref b47)])
    obtain ⟨cq48, kq48, q48a, q48b, q48c⟩ := isOf hZ rfl f47_0
    obtain ⟨_, _, ⟨T48, L48, k48, n48⟩, -, X48, ⟨Lc48, hQ48, l48, y48, z48⟩, st48⟩ := X47.virtualBack hx (y := (⟨"com/example/clear_tx/cleartx/TransactionDefinition", "propagation", "()Lcom/example/clear_tx/cleartx/Propagation;"⟩ : MethodName)) (z := (⟨"com/example/clear_tx/cleartx/TransactionDefinition", "propagation", "()Lcom/example/clear_tx/cleartx/Propagation;"⟩ : MethodName)) hown (mvT hZ (hw _ (List.mem_of_getElem? (i := 58) rfl))) (mvT hZ (hw _ (List.mem_of_getElem? (i := 59) rfl))) (notFace_of_selects (args := #[]) (mvT hZ (hw _ (List.mem_of_getElem? (i := 61) rfl)))) (mvT hZ (hw _ (List.mem_of_getElem? (i := 61) rfl))) (mvT hZ (hw _ (List.mem_of_getElem? (i := 60) rfl))) (by decide) (backOf (W := 0) (rm_get8 l Z a0 hw [] b47 c47 r5 T47.heap n0 O47 f47_1 f47_2) hZ (hw _ (List.mem_of_getElem? (i := 62) rfl)) (hw _ (List.mem_of_getElem? (i := 10) rfl)) (by decide) (by decide)) q48a q48c (g := (mkF m 19 #[.val (.int p1), .val (.int (5 : Int32)), .val (.ref r5), .val (.ref b47)] [(.ref b47)])) rfl (by rw [hml]; rfl) (Steps.refl _) (argsL := []) (rest := []) (lenOf pd_6 rfl) rfl (by show 2 * 0 + _ ≤ _; exact Nat.le_of_eq rfl) (hb hby at_19) (fun _ _ => ⟨rfl, rfl, (by decide : 4 + 0 ≤ _), (by decide : 128 + 0 ≤ _)⟩)
    dsimp only [Pt.U, Pt.locs, Pt.cells, Pt.slots] at X48 l48 y48 z48 st48 hQ48
    subst l48 y48 z48
    obtain ⟨rfl, N48q, e48⟩ := hQ48
    have N48 := Fr.app N47 N48q
    refine own_trW st48 ?_
    show own_EndsW _ _ _ _ _ _ _ T48 (mkF m 22 #[.val (.int p1), .val (.int (5 : Int32)), .val (.ref r5), .val (.ref b47)] [(.ref r5)])
    refine own_stW (fun _ kq => XS.aloadN X48.here hx rfl (hb hby at_22) rfl rfl kq) ?_
    show own_EndsW _ _ _ _ _ _ _ T48 (mkF m 23 #[.val (.int p1), .val (.int (5 : Int32)), .val (.ref r5), .val (.ref b47)] [(.ref r5), (.ref r5)])
    refine own_stW (fun _ kq => Jvm.RoadKit.acmp (g := (mkF m 23 #[.val (.int p1), .val (.int (5 : Int32)), .val (.ref r5), .val (.ref b47)] [(.ref r5), (.ref r5)])) X48 hx rfl rfl rfl (pc0 := 23) (pc' := 26) (same := true) rfl (hb hby at_23) rfl (decide_eq_true rfl) (by decide) (by decide) kq) ?_
    show own_EndsW _ _ _ _ _ _ _ T48 (mkF m 26 #[.val (.int p1), .val (.int (5 : Int32)), .val (.ref r5), .val (.ref b47)] [])
    refine own_stW (fun _ kq => XS.aloadN X48.here hx rfl (hb hby at_26) rfl rfl kq) ?_
    show own_EndsW _ _ _ _ _ _ _ T48 (mkF m 27 #[.val (.int p1), .val (.int (5 : Int32)), .val (.ref r5), .val (.ref b47)] [(.ref b47)])
    obtain ⟨cq49, kq49, q49a, q49b, q49c⟩ := isOf hZ e48 f47_0
    obtain ⟨_, _, ⟨T49, L49, k49, n49⟩, -, X49, ⟨Lc49, hQ49, l49, y49, z49⟩, st49⟩ := X48.virtualBack hx (y := (⟨"com/example/clear_tx/cleartx/TransactionDefinition", "isolation", "()Lcom/example/clear_tx/cleartx/Isolation;"⟩ : MethodName)) (z := (⟨"com/example/clear_tx/cleartx/TransactionDefinition", "isolation", "()Lcom/example/clear_tx/cleartx/Isolation;"⟩ : MethodName)) hown (mvT hZ (hw _ (List.mem_of_getElem? (i := 63) rfl))) (mvT hZ (hw _ (List.mem_of_getElem? (i := 64) rfl))) (notFace_of_selects (args := #[]) (mvT hZ (hw _ (List.mem_of_getElem? (i := 66) rfl)))) (mvT hZ (hw _ (List.mem_of_getElem? (i := 66) rfl))) (mvT hZ (hw _ (List.mem_of_getElem? (i := 65) rfl))) (by decide) (backOf (W := 0) (rm_get9 l Z a0 hw [] b47 c47 rD T47.heap n0 O47 f47_1 f47_3) hZ (hw _ (List.mem_of_getElem? (i := 67) rfl)) (hw _ (List.mem_of_getElem? (i := 10) rfl)) (by decide) (by decide)) q49a q49c (g := (mkF m 27 #[.val (.int p1), .val (.int (5 : Int32)), .val (.ref r5), .val (.ref b47)] [(.ref b47)])) rfl (by rw [hml]; rfl) (Steps.refl _) (argsL := []) (rest := []) (lenOf pd_7 rfl) rfl (by show 2 * 0 + _ ≤ _; exact Nat.le_of_eq rfl) (hb hby at_27) (fun _ _ => ⟨rfl, e48, (by decide : 4 + 0 ≤ _), (by decide : 128 + 0 ≤ _)⟩)
    dsimp only [Pt.U, Pt.locs, Pt.cells, Pt.slots] at X49 l49 y49 z49 st49 hQ49
    subst l49 y49 z49
    obtain ⟨rfl, N49q, e49⟩ := hQ49
    have N49 := Fr.app N48 N49q
    refine own_trW st49 ?_
    show own_EndsW _ _ _ _ _ _ _ T49 (mkF m 30 #[.val (.int p1), .val (.int (5 : Int32)), .val (.ref r5), .val (.ref b47)] [(.ref rD)])
    obtain ⟨T50, X50, e50, st50⟩ := getS2 X49 hx hZ hown (host := "") (Or.inl (hw _ (List.mem_of_getElem? (i := 69) rfl))) Via.refl e49 (S_D.ext O47.2) (g := (mkF m 30 #[.val (.int p1), .val (.int (5 : Int32)), .val (.ref r5), .val (.ref b47)] [(.ref rD)])) rfl (hb hby at_30)
    refine own_stW st50 ?_
    show own_EndsW _ _ _ _ _ _ _ T50 (mkF m 33 #[.val (.int p1), .val (.int (5 : Int32)), .val (.ref r5), .val (.ref b47)] [(.ref rD), (.ref rD)])
    refine own_stW (fun _ kq => Jvm.RoadKit.acmp (g := (mkF m 33 #[.val (.int p1), .val (.int (5 : Int32)), .val (.ref r5), .val (.ref b47)] [(.ref rD), (.ref rD)])) X50 hx rfl rfl rfl (pc0 := 33) (pc' := 36) (same := true) rfl (hb hby at_33) rfl (decide_eq_true rfl) (by decide) (by decide) kq) ?_
    show own_EndsW _ _ _ _ _ _ _ T50 (mkF m 36 #[.val (.int p1), .val (.int (5 : Int32)), .val (.ref r5), .val (.ref b47)] [])
    refine own_stW (fun _ kq => XS.aloadN X50.here hx rfl (hb hby at_36) rfl rfl kq) ?_
    show own_EndsW _ _ _ _ _ _ _ T50 (mkF m 37 #[.val (.int p1), .val (.int (5 : Int32)), .val (.ref r5), .val (.ref b47)] [(.ref b47)])
    obtain ⟨cq51, kq51, q51a, q51b, q51c⟩ := isOf hZ e50 f47_0
    obtain ⟨_, _, ⟨T51, L51, k51, n51⟩, -, X51, ⟨Lc51, hQ51, l51, y51, z51⟩, st51⟩ := X50.virtualBack hx (y := (⟨"com/example/clear_tx/cleartx/TransactionDefinition", "isReadOnly", "()Z"⟩ : MethodName)) (z := (⟨"com/example/clear_tx/cleartx/TransactionDefinition", "isReadOnly", "()Z"⟩ : MethodName)) hown (mvT hZ (hw _ (List.mem_of_getElem? (i := 70) rfl))) (mvT hZ (hw _ (List.mem_of_getElem? (i := 71) rfl))) (notFace_of_selects (args := #[]) (mvT hZ (hw _ (List.mem_of_getElem? (i := 73) rfl)))) (mvT hZ (hw _ (List.mem_of_getElem? (i := 73) rfl))) (mvT hZ (hw _ (List.mem_of_getElem? (i := 72) rfl))) (by decide) (backOf (W := 0) (rm_get10 l Z a0 hw [] b47 c47 T47.heap n0 O47 f47_1 f47_4) hZ (hw _ (List.mem_of_getElem? (i := 74) rfl)) (hw _ (List.mem_of_getElem? (i := 10) rfl)) (by decide) (by decide)) q51a q51c (g := (mkF m 37 #[.val (.int p1), .val (.int (5 : Int32)), .val (.ref r5), .val (.ref b47)] [(.ref b47)])) rfl (by rw [hml]; rfl) (Steps.refl _) (argsL := []) (rest := []) (lenOf pd_8 rfl) rfl (by show 2 * 0 + _ ≤ _; exact Nat.le_of_eq rfl) (hb hby at_37) (fun _ _ => ⟨rfl, e50, (by decide : 4 + 0 ≤ _), (by decide : 128 + 0 ≤ _)⟩)
    dsimp only [Pt.U, Pt.locs, Pt.cells, Pt.slots] at X51 l51 y51 z51 st51 hQ51
    subst l51 y51 z51
    obtain ⟨rfl, N51q, e51⟩ := hQ51
    have N51 := Fr.app N49 N51q
    refine own_trW st51 ?_
    show own_EndsW _ _ _ _ _ _ _ T51 (mkF m 40 #[.val (.int p1), .val (.int (5 : Int32)), .val (.ref r5), .val (.ref b47)] [(.int (0 : Int32))])
    refine own_stW (fun _ kq => XS.ifNo X51.here hx rfl (hb hby at_40) rfl ((if0 _ _).trans (teq (by decide : (0 : Int32) = (0 : Int32))).2) kq) ?_
    show own_EndsW _ _ _ _ _ _ _ T51 (mkF m 43 #[.val (.int p1), .val (.int (5 : Int32)), .val (.ref r5), .val (.ref b47)] [])
    refine own_stW (fun _ kq => XS.aloadN X51.here hx rfl (hb hby at_43) rfl rfl kq) ?_
    show own_EndsW _ _ _ _ _ _ _ T51 (mkF m 44 #[.val (.int p1), .val (.int (5 : Int32)), .val (.ref r5), .val (.ref b47)] [(.ref b47)])
    obtain ⟨cq52, kq52, q52a, q52b, q52c⟩ := isOf hZ e51 f47_0
    obtain ⟨_, _, ⟨T52, L52, k52, n52⟩, -, X52, ⟨Lc52, hQ52, l52, y52, z52⟩, st52⟩ := X51.virtualBack hx (y := (⟨"com/example/clear_tx/cleartx/TransactionDefinition", "timeout", "()I"⟩ : MethodName)) (z := (⟨"com/example/clear_tx/cleartx/TransactionDefinition", "timeout", "()I"⟩ : MethodName)) hown (mvT hZ (hw _ (List.mem_of_getElem? (i := 77) rfl))) (mvT hZ (hw _ (List.mem_of_getElem? (i := 78) rfl))) (notFace_of_selects (args := #[]) (mvT hZ (hw _ (List.mem_of_getElem? (i := 80) rfl)))) (mvT hZ (hw _ (List.mem_of_getElem? (i := 80) rfl))) (mvT hZ (hw _ (List.mem_of_getElem? (i := 79) rfl))) (by decide) (backOf (W := 0) (rm_get11 l Z a0 hw [] b47 c47 T47.heap n0 O47 f47_1 f47_5) hZ (hw _ (List.mem_of_getElem? (i := 81) rfl)) (hw _ (List.mem_of_getElem? (i := 10) rfl)) (by decide) (by decide)) q52a q52c (g := (mkF m 44 #[.val (.int p1), .val (.int (5 : Int32)), .val (.ref r5), .val (.ref b47)] [(.ref b47)])) rfl (by rw [hml]; rfl) (Steps.refl _) (argsL := []) (rest := []) (lenOf pd_9 rfl) rfl (by show 2 * 0 + _ ≤ _; exact Nat.le_of_eq rfl) (hb hby at_44) (fun _ _ => ⟨rfl, e51, (by decide : 4 + 0 ≤ _), (by decide : 128 + 0 ≤ _)⟩)
    dsimp only [Pt.U, Pt.locs, Pt.cells, Pt.slots] at X52 l52 y52 z52 st52 hQ52
    subst l52 y52 z52
    obtain ⟨rfl, N52q, e52⟩ := hQ52
    have N52 := Fr.app N51 N52q
    refine own_trW st52 ?_
    show own_EndsW _ _ _ _ _ _ _ T52 (mkF m 47 #[.val (.int p1), .val (.int (5 : Int32)), .val (.ref r5), .val (.ref b47)] [(.int (-1 : Int32))])
    refine own_stW (fun _ kq => XS.iconst X52.here hx rfl (hb hby at_47) kq) ?_
    show own_EndsW _ _ _ _ _ _ _ T52 (mkF m 48 #[.val (.int p1), .val (.int (5 : Int32)), .val (.ref r5), .val (.ref b47)] [(.int (-1 : Int32)), (.int (-1 : Int32))])
    refine own_stW (fun _ kq => XS.icmpNo X52.here hx rfl (hb hby at_48) rfl (teq (by decide : (-1 : Int32) = (-1 : Int32))).2 kq) ?_
    show own_EndsW _ _ _ _ _ _ _ T52 (mkF m 51 #[.val (.int p1), .val (.int (5 : Int32)), .val (.ref r5), .val (.ref b47)] [])
    refine own_stW (fun _ kq => XS.aloadN X52.here hx rfl (hb hby at_51) rfl rfl kq) ?_
    show own_EndsW _ _ _ _ _ _ _ T52 (mkF m 52 #[.val (.int p1), .val (.int (5 : Int32)), .val (.ref r5), .val (.ref b47)] [(.ref b47)])
    obtain ⟨cq53, kq53, q53a, q53b, q53c⟩ := isOf hZ e52 f47_0
    obtain ⟨_, _, ⟨T53, L53, k53, n53⟩, -, X53, ⟨Lc53, hQ53, l53, y53, z53⟩, st53⟩ := X52.virtualBack hx (y := (⟨"com/example/clear_tx/cleartx/TransactionDefinition", "name", "()Ljava/lang/String;"⟩ : MethodName)) (z := (⟨"com/example/clear_tx/cleartx/TransactionDefinition", "name", "()Ljava/lang/String;"⟩ : MethodName)) hown (mvT hZ (hw _ (List.mem_of_getElem? (i := 83) rfl))) (mvT hZ (hw _ (List.mem_of_getElem? (i := 84) rfl))) (notFace_of_selects (args := #[]) (mvT hZ (hw _ (List.mem_of_getElem? (i := 86) rfl)))) (mvT hZ (hw _ (List.mem_of_getElem? (i := 86) rfl))) (mvT hZ (hw _ (List.mem_of_getElem? (i := 85) rfl))) (by decide) (backOf (W := 0) (rm_get12 l Z a0 hw [] b47 c47 T47.heap n0 O47 f47_1 f47_6) hZ (hw _ (List.mem_of_getElem? (i := 87) rfl)) (hw _ (List.mem_of_getElem? (i := 10) rfl)) (by decide) (by decide)) q53a q53c (g := (mkF m 52 #[.val (.int p1), .val (.int (5 : Int32)), .val (.ref r5), .val (.ref b47)] [(.ref b47)])) rfl (by rw [hml]; rfl) (Steps.refl _) (argsL := []) (rest := []) (lenOf pd_10 rfl) rfl (by show 2 * 0 + _ ≤ _; exact Nat.le_of_eq rfl) (hb hby at_52) (fun _ _ => ⟨rfl, e52, (by decide : 4 + 0 ≤ _), (by decide : 128 + 0 ≤ _)⟩)
    dsimp only [Pt.U, Pt.locs, Pt.cells, Pt.slots] at X53 l53 y53 z53 st53 hQ53
    subst l53 y53 z53
    obtain ⟨rfl, N53q, e53⟩ := hQ53
    have N53 := Fr.app N52 N53q
    refine own_trW st53 ?_
    show own_EndsW _ _ _ _ _ _ _ T53 (mkF m 55 #[.val (.int p1), .val (.int (5 : Int32)), .val (.ref r5), .val (.ref b47)] [.null])
    refine own_stW (fun _ kq => XS.ifnonnullNo X53.here hx rfl (hb hby at_55) rfl kq) ?_
    show own_EndsW _ _ _ _ _ _ _ T53 (mkF m 58 #[.val (.int p1), .val (.int (5 : Int32)), .val (.ref r5), .val (.ref b47)] [])
    refine own_stW (fun _ kq => XS.aloadN X53.here hx rfl (hb hby at_58) rfl rfl kq) ?_
    show own_EndsW _ _ _ _ _ _ _ T53 (mkF m 59 #[.val (.int p1), .val (.int (5 : Int32)), .val (.ref r5), .val (.ref b47)] [(.ref b47)])
    obtain ⟨cq54, kq54, q54a, q54b, q54c⟩ := isOf hZ e53 f47_0
    obtain ⟨_, _, ⟨T54, L54, k54, n54⟩, -, X54, ⟨Lc54, hQ54, l54, y54, z54⟩, st54⟩ := X53.virtualBack hx (y := (⟨"com/example/clear_tx/cleartx/TransactionDefinition", "declaredOn", "()Ljava/lang/String;"⟩ : MethodName)) (z := (⟨"com/example/clear_tx/cleartx/TransactionDefinition", "declaredOn", "()Ljava/lang/String;"⟩ : MethodName)) hown (mvT hZ (hw _ (List.mem_of_getElem? (i := 90) rfl))) (mvT hZ (hw _ (List.mem_of_getElem? (i := 91) rfl))) (notFace_of_selects (args := #[]) (mvT hZ (hw _ (List.mem_of_getElem? (i := 93) rfl)))) (mvT hZ (hw _ (List.mem_of_getElem? (i := 93) rfl))) (mvT hZ (hw _ (List.mem_of_getElem? (i := 92) rfl))) (by decide) (backOf (W := 0) (rm_get13 l Z a0 hw [] b47 c47 T47.heap n0 O47 f47_1 f47_8) hZ (hw _ (List.mem_of_getElem? (i := 94) rfl)) (hw _ (List.mem_of_getElem? (i := 10) rfl)) (by decide) (by decide)) q54a q54c (g := (mkF m 59 #[.val (.int p1), .val (.int (5 : Int32)), .val (.ref r5), .val (.ref b47)] [(.ref b47)])) rfl (by rw [hml]; rfl) (Steps.refl _) (argsL := []) (rest := []) (lenOf pd_10 rfl) rfl (by show 2 * 0 + _ ≤ _; exact Nat.le_of_eq rfl) (hb hby at_59) (fun _ _ => ⟨rfl, e53, (by decide : 4 + 0 ≤ _), (by decide : 128 + 0 ≤ _)⟩)
    dsimp only [Pt.U, Pt.locs, Pt.cells, Pt.slots] at X54 l54 y54 z54 st54 hQ54
    subst l54 y54 z54
    obtain ⟨rfl, N54q, e54⟩ := hQ54
    have N54 := Fr.app N53 N54q
    refine own_trW st54 ?_
    show own_EndsW _ _ _ _ _ _ _ T54 (mkF m 62 #[.val (.int p1), .val (.int (5 : Int32)), .val (.ref r5), .val (.ref b47)] [.null])
    refine own_stW (fun _ kq => XS.ifnonnullNo X54.here hx rfl (hb hby at_62) rfl kq) ?_
    show own_EndsW _ _ _ _ _ _ _ T54 (mkF m 65 #[.val (.int p1), .val (.int (5 : Int32)), .val (.ref r5), .val (.ref b47)] [])
    refine own_stW (fun _ kq => XS.iconst X54.here hx rfl (hb hby at_65) kq) ?_
    show own_EndsW _ _ _ _ _ _ _ T54 (mkF m 66 #[.val (.int p1), .val (.int (5 : Int32)), .val (.ref r5), .val (.ref b47)] [(.int (1 : Int32))])
    refine own_stW (fun _ kq => XS.goto X54.here hx rfl (pc0 := 66) (pc' := 70) rfl (hb hby at_66) (by decide) (by decide) kq) ?_
    show own_EndsW _ _ _ _ _ _ _ T54 (mkF m 70 #[.val (.int p1), .val (.int (5 : Int32)), .val (.ref r5), .val (.ref b47)] [(.int (1 : Int32))])
    refine own_retNW X54 hS (by rw [e54]; exact hk) hx (t := .boolean) Bd.returns (by simp) (hb hby at_70) hlk (by decide) (by decide) (w := (1 : Int32)) (by decide) ?_
    show Q_rm_law Z p1 r0 rD r3 r5 r6 r4 r2 r1 rL h0 n0 _ T54.heap _
    rw [e54]
    exact ⟨rfl, N54⟩
  · rw [ej]
    show own_EndsW _ _ _ _ _ _ _ s₁ (mkF m 7 #[.val (.int p1), .unset, .unset, .unset] [(.int (6 : Int32))])
    refine own_stW (fun _ kq => XS.istoreN X0.here hx rfl (hb hby at_7) rfl (l' := #[.val (.int p1), .val (.int (6 : Int32)), .unset, .unset]) rfl kq) ?_
    show own_EndsW _ _ _ _ _ _ _ s₁ (mkF m 8 #[.val (.int p1), .val (.int (6 : Int32)), .unset, .unset] [])
    refine own_stW (fun _ kq => XS.iloadN X0.here hx rfl (hb hby at_8) rfl kq) ?_
    show own_EndsW _ _ _ _ _ _ _ s₁ (mkF m 9 #[.val (.int p1), .val (.int (6 : Int32)), .unset, .unset] [(.int (6 : Int32))])
    obtain ⟨_, _, ⟨T55, L55, k55, n55⟩, -, X55, ⟨Lc55, hQ55, l55, y55, z55⟩, st55⟩ := Jvm.LawKit.callS X0 hx (y := (⟨"com/example/clear_tx/cleartx/TransactionDefinitionOfPinLaw", "pick", "(I)Lcom/example/clear_tx/cleartx/Propagation;"⟩ : MethodName)) hown (mvT hZ (hw _ (List.mem_of_getElem? (i := 1) rfl))) (mvT hZ (hw _ (List.mem_of_getElem? (i := 2) rfl))) (mvT hZ (hw _ (List.mem_of_getElem? (i := 3) rfl))) (mvT hZ (hw _ (List.mem_of_getElem? (i := 4) rfl))) (by decide) (backOf (W := 0) (rm_pick6 l Z a0 hw [] r0 rD r3 r5 r6 r4 r2 r1 rL h0 n0 O0 G) hZ (hw _ (List.mem_of_getElem? (i := 4) rfl)) (hw _ (List.mem_of_getElem? (i := 3) rfl)) (by decide) (by decide)) (g := (mkF m 9 #[.val (.int p1), .val (.int (6 : Int32)), .unset, .unset] [(.int (6 : Int32))])) rfl (by rw [hml]; rfl) (argsL := [(.int (6 : Int32))]) (rest := []) (lenOf pd_0 rfl) rfl (by show 2 * 0 + _ ≤ _; exact Nat.le_of_eq rfl) (hb hby at_9) (fun _ _ => ⟨rfl, e0, (by decide : 0 + 0 ≤ _), (by decide : 0 + 0 ≤ _)⟩)
    dsimp only [Pt.U, Pt.locs, Pt.cells, Pt.slots] at X55 l55 y55 z55 st55 hQ55
    subst l55 y55 z55
    obtain ⟨rfl, N55q, e55⟩ := hQ55
    have N55 := Fr.app N0 N55q
    refine own_stW st55 ?_
    show own_EndsW _ _ _ _ _ _ _ T55 (mkF m 12 #[.val (.int p1), .val (.int (6 : Int32)), .unset, .unset] [(.ref r6)])
    refine own_stW (fun _ kq => XS.astoreN X55.here hx rfl (hb hby at_12) rfl rfl (l' := #[.val (.int p1), .val (.int (6 : Int32)), .val (.ref r6), .unset]) rfl kq) ?_
    show own_EndsW _ _ _ _ _ _ _ T55 (mkF m 13 #[.val (.int p1), .val (.int (6 : Int32)), .val (.ref r6), .unset] [])
    refine own_stW (fun _ kq => XS.aloadN X55.here hx rfl (hb hby at_13) rfl rfl kq) ?_
    show own_EndsW _ _ _ _ _ _ _ T55 (mkF m 14 #[.val (.int p1), .val (.int (6 : Int32)), .val (.ref r6), .unset] [(.ref r6)])
    obtain ⟨_, _, ⟨T56, L56, k56, n56⟩, -, X56, hS2, hgr, ⟨Lc56, hQ56, l56, y56, z56⟩, st56⟩ := Jvm.RoadKit.callSS X55 hx (y := (⟨"com/example/clear_tx/cleartx/TransactionDefinition", "of", "(Lcom/example/clear_tx/cleartx/Propagation;)Lcom/example/clear_tx/cleartx/TransactionDefinition;"⟩ : MethodName)) hown (mvT hZ (hw _ (List.mem_of_getElem? (i := 8) rfl))) (mvT hZ (hw _ (List.mem_of_getElem? (i := 9) rfl))) (mvT hZ (hw _ (List.mem_of_getElem? (i := 10) rfl))) (mvT hZ (hw _ (List.mem_of_getElem? (i := 11) rfl))) (by decide) (backOfS (W := 0) (rm_of l Z a0 hw [] r6 r0 rD r3 r5 r6 r4 r2 r1 rL h0 n0 O0 G) hZ (hw _ (List.mem_of_getElem? (i := 11) rfl)) (hw _ (List.mem_of_getElem? (i := 10) rfl)) (by decide) (by decide)) (g := (mkF m 14 #[.val (.int p1), .val (.int (6 : Int32)), .val (.ref r6), .unset] [(.ref r6)])) rfl (by rw [hml]; rfl) (argsL := [(.ref r6)]) (rest := []) (lenOf pd_1 rfl) rfl (by show 2 * 0 + _ ≤ _; exact Nat.le_of_eq rfl) (hb hby at_14) (fun _ _ => ⟨rfl, e55, (by decide : 0 + 4 ≤ _), (by decide : 0 + 128 ≤ _)⟩)
    dsimp only [Pt.U, Pt.locs, Pt.cells, Pt.slots] at X56 l56 y56 z56 st56 hQ56 hS2 hgr
    subst l56 y56 z56
    have X56 : Stand p l e room_1 (s.setVm T56.vm) m #[(.int p1)] below meth c T56 _ _ _ := X56
    have hS := foldS hS (show _ ≤ T55.heap.size by rw [e55]; exact hk) hS2 hgr
    have hk := Nat.le_refl T56.heap.size
    have hZ : Z.Warmed39 (s.setVm T56.vm).vm := State.Warmed39.trans hZ hS2.1
    have hown : (s.setVm T56.vm).vm.findClass "com/example/clear_tx/cleartx/TransactionDefinitionOfPinLaw" = some m.cls := by rw [show (s.setVm T56.vm).vm = T56.vm from rfl, hS2.1.alike.findClass]; exact hown
    obtain ⟨b56, c56, rfl, N56q, K56, O56, f56_0, f56_1, f56_2, f56_3, f56_4, f56_5, f56_6, f56_7, f56_8⟩ := hQ56
    have N56 := Fr.app N55 N56q
    refine own_trW st56 ?_
    show own_EndsW _ _ _ _ _ _ _ T56 (mkF m 17 #[.val (.int p1), .val (.int (6 : Int32)), .val (.ref r6), .unset] [(.ref b56)])
    refine own_stW (fun _ kq => XS.astoreN X56.here hx rfl (hb hby at_17) rfl rfl (l' := #[.val (.int p1), .val (.int (6 : Int32)), .val (.ref r6), .val (.ref b56)]) rfl kq) ?_
    show own_EndsW _ _ _ _ _ _ _ T56 (mkF m 18 #[.val (.int p1), .val (.int (6 : Int32)), .val (.ref r6), .val (.ref b56)] [])
    refine own_stW (fun _ kq => XS.aloadN X56.here hx rfl (hb hby at_18) rfl rfl kq) ?_
    show own_EndsW _ _ _ _ _ _ _ T56 (mkF m 19 #[.val (.int p1), .val (.int (6 : Int32)), .val (.ref r6), .val (.ref b56)] [(.ref b56)])
    obtain ⟨cq57, kq57, q57a, q57b, q57c⟩ := isOf hZ rfl f56_0
    obtain ⟨_, _, ⟨T57, L57, k57, n57⟩, -, X57, ⟨Lc57, hQ57, l57, y57, z57⟩, st57⟩ := X56.virtualBack hx (y := (⟨"com/example/clear_tx/cleartx/TransactionDefinition", "propagation", "()Lcom/example/clear_tx/cleartx/Propagation;"⟩ : MethodName)) (z := (⟨"com/example/clear_tx/cleartx/TransactionDefinition", "propagation", "()Lcom/example/clear_tx/cleartx/Propagation;"⟩ : MethodName)) hown (mvT hZ (hw _ (List.mem_of_getElem? (i := 58) rfl))) (mvT hZ (hw _ (List.mem_of_getElem? (i := 59) rfl))) (notFace_of_selects (args := #[]) (mvT hZ (hw _ (List.mem_of_getElem? (i := 61) rfl)))) (mvT hZ (hw _ (List.mem_of_getElem? (i := 61) rfl))) (mvT hZ (hw _ (List.mem_of_getElem? (i := 60) rfl))) (by decide) (backOf (W := 0) (rm_get8 l Z a0 hw [] b56 c56 r6 T56.heap n0 O56 f56_1 f56_2) hZ (hw _ (List.mem_of_getElem? (i := 62) rfl)) (hw _ (List.mem_of_getElem? (i := 10) rfl)) (by decide) (by decide)) q57a q57c (g := (mkF m 19 #[.val (.int p1), .val (.int (6 : Int32)), .val (.ref r6), .val (.ref b56)] [(.ref b56)])) rfl (by rw [hml]; rfl) (Steps.refl _) (argsL := []) (rest := []) (lenOf pd_6 rfl) rfl (by show 2 * 0 + _ ≤ _; exact Nat.le_of_eq rfl) (hb hby at_19) (fun _ _ => ⟨rfl, rfl, (by decide : 4 + 0 ≤ _), (by decide : 128 + 0 ≤ _)⟩)
    dsimp only [Pt.U, Pt.locs, Pt.cells, Pt.slots] at X57 l57 y57 z57 st57 hQ57
    subst l57 y57 z57
    obtain ⟨rfl, N57q, e57⟩ := hQ57
    have N57 := Fr.app N56 N57q
    refine own_trW st57 ?_
    show own_EndsW _ _ _ _ _ _ _ T57 (mkF m 22 #[.val (.int p1), .val (.int (6 : Int32)), .val (.ref r6), .val (.ref b56)] [(.ref r6)])
    refine own_stW (fun _ kq => XS.aloadN X57.here hx rfl (hb hby at_22) rfl rfl kq) ?_
    show own_EndsW _ _ _ _ _ _ _ T57 (mkF m 23 #[.val (.int p1), .val (.int (6 : Int32)), .val (.ref r6), .val (.ref b56)] [(.ref r6), (.ref r6)])
    refine own_stW (fun _ kq => Jvm.RoadKit.acmp (g := (mkF m 23 #[.val (.int p1), .val (.int (6 : Int32)), .val (.ref r6), .val (.ref b56)] [(.ref r6), (.ref r6)])) X57 hx rfl rfl rfl (pc0 := 23) (pc' := 26) (same := true) rfl (hb hby at_23) rfl (decide_eq_true rfl) (by decide) (by decide) kq) ?_
    show own_EndsW _ _ _ _ _ _ _ T57 (mkF m 26 #[.val (.int p1), .val (.int (6 : Int32)), .val (.ref r6), .val (.ref b56)] [])
    refine own_stW (fun _ kq => XS.aloadN X57.here hx rfl (hb hby at_26) rfl rfl kq) ?_
    show own_EndsW _ _ _ _ _ _ _ T57 (mkF m 27 #[.val (.int p1), .val (.int (6 : Int32)), .val (.ref r6), .val (.ref b56)] [(.ref b56)])
    obtain ⟨cq58, kq58, q58a, q58b, q58c⟩ := isOf hZ e57 f56_0
    obtain ⟨_, _, ⟨T58, L58, k58, n58⟩, -, X58, ⟨Lc58, hQ58, l58, y58, z58⟩, st58⟩ := X57.virtualBack hx (y := (⟨"com/example/clear_tx/cleartx/TransactionDefinition", "isolation", "()Lcom/example/clear_tx/cleartx/Isolation;"⟩ : MethodName)) (z := (⟨"com/example/clear_tx/cleartx/TransactionDefinition", "isolation", "()Lcom/example/clear_tx/cleartx/Isolation;"⟩ : MethodName)) hown (mvT hZ (hw _ (List.mem_of_getElem? (i := 63) rfl))) (mvT hZ (hw _ (List.mem_of_getElem? (i := 64) rfl))) (notFace_of_selects (args := #[]) (mvT hZ (hw _ (List.mem_of_getElem? (i := 66) rfl)))) (mvT hZ (hw _ (List.mem_of_getElem? (i := 66) rfl))) (mvT hZ (hw _ (List.mem_of_getElem? (i := 65) rfl))) (by decide) (backOf (W := 0) (rm_get9 l Z a0 hw [] b56 c56 rD T56.heap n0 O56 f56_1 f56_3) hZ (hw _ (List.mem_of_getElem? (i := 67) rfl)) (hw _ (List.mem_of_getElem? (i := 10) rfl)) (by decide) (by decide)) q58a q58c (g := (mkF m 27 #[.val (.int p1), .val (.int (6 : Int32)), .val (.ref r6), .val (.ref b56)] [(.ref b56)])) rfl (by rw [hml]; rfl) (Steps.refl _) (argsL := []) (rest := []) (lenOf pd_7 rfl) rfl (by show 2 * 0 + _ ≤ _; exact Nat.le_of_eq rfl) (hb hby at_27) (fun _ _ => ⟨rfl, e57, (by decide : 4 + 0 ≤ _), (by decide : 128 + 0 ≤ _)⟩)
    dsimp only [Pt.U, Pt.locs, Pt.cells, Pt.slots] at X58 l58 y58 z58 st58 hQ58
    subst l58 y58 z58
    obtain ⟨rfl, N58q, e58⟩ := hQ58
    have N58 := Fr.app N57 N58q
    refine own_trW st58 ?_
    show own_EndsW _ _ _ _ _ _ _ T58 (mkF m 30 #[.val (.int p1), .val (.int (6 : Int32)), .val (.ref r6), .val (.ref b56)] [(.ref rD)])
    obtain ⟨T59, X59, e59, st59⟩ := getS2 X58 hx hZ hown (host := "") (Or.inl (hw _ (List.mem_of_getElem? (i := 69) rfl))) Via.refl e58 (S_D.ext O56.2) (g := (mkF m 30 #[.val (.int p1), .val (.int (6 : Int32)), .val (.ref r6), .val (.ref b56)] [(.ref rD)])) rfl (hb hby at_30)
    refine own_stW st59 ?_
    show own_EndsW _ _ _ _ _ _ _ T59 (mkF m 33 #[.val (.int p1), .val (.int (6 : Int32)), .val (.ref r6), .val (.ref b56)] [(.ref rD), (.ref rD)])
    refine own_stW (fun _ kq => Jvm.RoadKit.acmp (g := (mkF m 33 #[.val (.int p1), .val (.int (6 : Int32)), .val (.ref r6), .val (.ref b56)] [(.ref rD), (.ref rD)])) X59 hx rfl rfl rfl (pc0 := 33) (pc' := 36) (same := true) rfl (hb hby at_33) rfl (decide_eq_true rfl) (by decide) (by decide) kq) ?_
    show own_EndsW _ _ _ _ _ _ _ T59 (mkF m 36 #[.val (.int p1), .val (.int (6 : Int32)), .val (.ref r6), .val (.ref b56)] [])
    refine own_stW (fun _ kq => XS.aloadN X59.here hx rfl (hb hby at_36) rfl rfl kq) ?_
    show own_EndsW _ _ _ _ _ _ _ T59 (mkF m 37 #[.val (.int p1), .val (.int (6 : Int32)), .val (.ref r6), .val (.ref b56)] [(.ref b56)])
    obtain ⟨cq60, kq60, q60a, q60b, q60c⟩ := isOf hZ e59 f56_0
    obtain ⟨_, _, ⟨T60, L60, k60, n60⟩, -, X60, ⟨Lc60, hQ60, l60, y60, z60⟩, st60⟩ := X59.virtualBack hx (y := (⟨"com/example/clear_tx/cleartx/TransactionDefinition", "isReadOnly", "()Z"⟩ : MethodName)) (z := (⟨"com/example/clear_tx/cleartx/TransactionDefinition", "isReadOnly", "()Z"⟩ : MethodName)) hown (mvT hZ (hw _ (List.mem_of_getElem? (i := 70) rfl))) (mvT hZ (hw _ (List.mem_of_getElem? (i := 71) rfl))) (notFace_of_selects (args := #[]) (mvT hZ (hw _ (List.mem_of_getElem? (i := 73) rfl)))) (mvT hZ (hw _ (List.mem_of_getElem? (i := 73) rfl))) (mvT hZ (hw _ (List.mem_of_getElem? (i := 72) rfl))) (by decide) (backOf (W := 0) (rm_get10 l Z a0 hw [] b56 c56 T56.heap n0 O56 f56_1 f56_4) hZ (hw _ (List.mem_of_getElem? (i := 74) rfl)) (hw _ (List.mem_of_getElem? (i := 10) rfl)) (by decide) (by decide)) q60a q60c (g := (mkF m 37 #[.val (.int p1), .val (.int (6 : Int32)), .val (.ref r6), .val (.ref b56)] [(.ref b56)])) rfl (by rw [hml]; rfl) (Steps.refl _) (argsL := []) (rest := []) (lenOf pd_8 rfl) rfl (by show 2 * 0 + _ ≤ _; exact Nat.le_of_eq rfl) (hb hby at_37) (fun _ _ => ⟨rfl, e59, (by decide : 4 + 0 ≤ _), (by decide : 128 + 0 ≤ _)⟩)
    dsimp only [Pt.U, Pt.locs, Pt.cells, Pt.slots] at X60 l60 y60 z60 st60 hQ60
    subst l60 y60 z60
    obtain ⟨rfl, N60q, e60⟩ := hQ60
    have N60 := Fr.app N58 N60q
    refine own_trW st60 ?_
    show own_EndsW _ _ _ _ _ _ _ T60 (mkF m 40 #[.val (.int p1), .val (.int (6 : Int32)), .val (.ref r6), .val (.ref b56)] [(.int (0 : Int32))])
    refine own_stW (fun _ kq => XS.ifNo X60.here hx rfl (hb hby at_40) rfl ((if0 _ _).trans (teq (by decide : (0 : Int32) = (0 : Int32))).2) kq) ?_
    show own_EndsW _ _ _ _ _ _ _ T60 (mkF m 43 #[.val (.int p1), .val (.int (6 : Int32)), .val (.ref r6), .val (.ref b56)] [])
    refine own_stW (fun _ kq => XS.aloadN X60.here hx rfl (hb hby at_43) rfl rfl kq) ?_
    show own_EndsW _ _ _ _ _ _ _ T60 (mkF m 44 #[.val (.int p1), .val (.int (6 : Int32)), .val (.ref r6), .val (.ref b56)] [(.ref b56)])
    obtain ⟨cq61, kq61, q61a, q61b, q61c⟩ := isOf hZ e60 f56_0
    obtain ⟨_, _, ⟨T61, L61, k61, n61⟩, -, X61, ⟨Lc61, hQ61, l61, y61, z61⟩, st61⟩ := X60.virtualBack hx (y := (⟨"com/example/clear_tx/cleartx/TransactionDefinition", "timeout", "()I"⟩ : MethodName)) (z := (⟨"com/example/clear_tx/cleartx/TransactionDefinition", "timeout", "()I"⟩ : MethodName)) hown (mvT hZ (hw _ (List.mem_of_getElem? (i := 77) rfl))) (mvT hZ (hw _ (List.mem_of_getElem? (i := 78) rfl))) (notFace_of_selects (args := #[]) (mvT hZ (hw _ (List.mem_of_getElem? (i := 80) rfl)))) (mvT hZ (hw _ (List.mem_of_getElem? (i := 80) rfl))) (mvT hZ (hw _ (List.mem_of_getElem? (i := 79) rfl))) (by decide) (backOf (W := 0) (rm_get11 l Z a0 hw [] b56 c56 T56.heap n0 O56 f56_1 f56_5) hZ (hw _ (List.mem_of_getElem? (i := 81) rfl)) (hw _ (List.mem_of_getElem? (i := 10) rfl)) (by decide) (by decide)) q61a q61c (g := (mkF m 44 #[.val (.int p1), .val (.int (6 : Int32)), .val (.ref r6), .val (.ref b56)] [(.ref b56)])) rfl (by rw [hml]; rfl) (Steps.refl _) (argsL := []) (rest := []) (lenOf pd_9 rfl) rfl (by show 2 * 0 + _ ≤ _; exact Nat.le_of_eq rfl) (hb hby at_44) (fun _ _ => ⟨rfl, e60, (by decide : 4 + 0 ≤ _), (by decide : 128 + 0 ≤ _)⟩)
    dsimp only [Pt.U, Pt.locs, Pt.cells, Pt.slots] at X61 l61 y61 z61 st61 hQ61
    subst l61 y61 z61
    obtain ⟨rfl, N61q, e61⟩ := hQ61
    have N61 := Fr.app N60 N61q
    refine own_trW st61 ?_
    show own_EndsW _ _ _ _ _ _ _ T61 (mkF m 47 #[.val (.int p1), .val (.int (6 : Int32)), .val (.ref r6), .val (.ref b56)] [(.int (-1 : Int32))])
    refine own_stW (fun _ kq => XS.iconst X61.here hx rfl (hb hby at_47) kq) ?_
    show own_EndsW _ _ _ _ _ _ _ T61 (mkF m 48 #[.val (.int p1), .val (.int (6 : Int32)), .val (.ref r6), .val (.ref b56)] [(.int (-1 : Int32)), (.int (-1 : Int32))])
    refine own_stW (fun _ kq => XS.icmpNo X61.here hx rfl (hb hby at_48) rfl (teq (by decide : (-1 : Int32) = (-1 : Int32))).2 kq) ?_
    show own_EndsW _ _ _ _ _ _ _ T61 (mkF m 51 #[.val (.int p1), .val (.int (6 : Int32)), .val (.ref r6), .val (.ref b56)] [])
    refine own_stW (fun _ kq => XS.aloadN X61.here hx rfl (hb hby at_51) rfl rfl kq) ?_
    show own_EndsW _ _ _ _ _ _ _ T61 (mkF m 52 #[.val (.int p1), .val (.int (6 : Int32)), .val (.ref r6), .val (.ref b56)] [(.ref b56)])
    obtain ⟨cq62, kq62, q62a, q62b, q62c⟩ := isOf hZ e61 f56_0
    obtain ⟨_, _, ⟨T62, L62, k62, n62⟩, -, X62, ⟨Lc62, hQ62, l62, y62, z62⟩, st62⟩ := X61.virtualBack hx (y := (⟨"com/example/clear_tx/cleartx/TransactionDefinition", "name", "()Ljava/lang/String;"⟩ : MethodName)) (z := (⟨"com/example/clear_tx/cleartx/TransactionDefinition", "name", "()Ljava/lang/String;"⟩ : MethodName)) hown (mvT hZ (hw _ (List.mem_of_getElem? (i := 83) rfl))) (mvT hZ (hw _ (List.mem_of_getElem? (i := 84) rfl))) (notFace_of_selects (args := #[]) (mvT hZ (hw _ (List.mem_of_getElem? (i := 86) rfl)))) (mvT hZ (hw _ (List.mem_of_getElem? (i := 86) rfl))) (mvT hZ (hw _ (List.mem_of_getElem? (i := 85) rfl))) (by decide) (backOf (W := 0) (rm_get12 l Z a0 hw [] b56 c56 T56.heap n0 O56 f56_1 f56_6) hZ (hw _ (List.mem_of_getElem? (i := 87) rfl)) (hw _ (List.mem_of_getElem? (i := 10) rfl)) (by decide) (by decide)) q62a q62c (g := (mkF m 52 #[.val (.int p1), .val (.int (6 : Int32)), .val (.ref r6), .val (.ref b56)] [(.ref b56)])) rfl (by rw [hml]; rfl) (Steps.refl _) (argsL := []) (rest := []) (lenOf pd_10 rfl) rfl (by show 2 * 0 + _ ≤ _; exact Nat.le_of_eq rfl) (hb hby at_52) (fun _ _ => ⟨rfl, e61, (by decide : 4 + 0 ≤ _), (by decide : 128 + 0 ≤ _)⟩)
    dsimp only [Pt.U, Pt.locs, Pt.cells, Pt.slots] at X62 l62 y62 z62 st62 hQ62
    subst l62 y62 z62
    obtain ⟨rfl, N62q, e62⟩ := hQ62
    have N62 := Fr.app N61 N62q
    refine own_trW st62 ?_
    show own_EndsW _ _ _ _ _ _ _ T62 (mkF m 55 #[.val (.int p1), .val (.int (6 : Int32)), .val (.ref r6), .val (.ref b56)] [.null])
    refine own_stW (fun _ kq => XS.ifnonnullNo X62.here hx rfl (hb hby at_55) rfl kq) ?_
    show own_EndsW _ _ _ _ _ _ _ T62 (mkF m 58 #[.val (.int p1), .val (.int (6 : Int32)), .val (.ref r6), .val (.ref b56)] [])
    refine own_stW (fun _ kq => XS.aloadN X62.here hx rfl (hb hby at_58) rfl rfl kq) ?_
    show own_EndsW _ _ _ _ _ _ _ T62 (mkF m 59 #[.val (.int p1), .val (.int (6 : Int32)), .val (.ref r6), .val (.ref b56)] [(.ref b56)])
    obtain ⟨cq63, kq63, q63a, q63b, q63c⟩ := isOf hZ e62 f56_0
    obtain ⟨_, _, ⟨T63, L63, k63, n63⟩, -, X63, ⟨Lc63, hQ63, l63, y63, z63⟩, st63⟩ := X62.virtualBack hx (y := (⟨"com/example/clear_tx/cleartx/TransactionDefinition", "declaredOn", "()Ljava/lang/String;"⟩ : MethodName)) (z := (⟨"com/example/clear_tx/cleartx/TransactionDefinition", "declaredOn", "()Ljava/lang/String;"⟩ : MethodName)) hown (mvT hZ (hw _ (List.mem_of_getElem? (i := 90) rfl))) (mvT hZ (hw _ (List.mem_of_getElem? (i := 91) rfl))) (notFace_of_selects (args := #[]) (mvT hZ (hw _ (List.mem_of_getElem? (i := 93) rfl)))) (mvT hZ (hw _ (List.mem_of_getElem? (i := 93) rfl))) (mvT hZ (hw _ (List.mem_of_getElem? (i := 92) rfl))) (by decide) (backOf (W := 0) (rm_get13 l Z a0 hw [] b56 c56 T56.heap n0 O56 f56_1 f56_8) hZ (hw _ (List.mem_of_getElem? (i := 94) rfl)) (hw _ (List.mem_of_getElem? (i := 10) rfl)) (by decide) (by decide)) q63a q63c (g := (mkF m 59 #[.val (.int p1), .val (.int (6 : Int32)), .val (.ref r6), .val (.ref b56)] [(.ref b56)])) rfl (by rw [hml]; rfl) (Steps.refl _) (argsL := []) (rest := []) (lenOf pd_10 rfl) rfl (by show 2 * 0 + _ ≤ _; exact Nat.le_of_eq rfl) (hb hby at_59) (fun _ _ => ⟨rfl, e62, (by decide : 4 + 0 ≤ _), (by decide : 128 + 0 ≤ _)⟩)
    dsimp only [Pt.U, Pt.locs, Pt.cells, Pt.slots] at X63 l63 y63 z63 st63 hQ63
    subst l63 y63 z63
    obtain ⟨rfl, N63q, e63⟩ := hQ63
    have N63 := Fr.app N62 N63q
    refine own_trW st63 ?_
    show own_EndsW _ _ _ _ _ _ _ T63 (mkF m 62 #[.val (.int p1), .val (.int (6 : Int32)), .val (.ref r6), .val (.ref b56)] [.null])
    refine own_stW (fun _ kq => XS.ifnonnullNo X63.here hx rfl (hb hby at_62) rfl kq) ?_
    show own_EndsW _ _ _ _ _ _ _ T63 (mkF m 65 #[.val (.int p1), .val (.int (6 : Int32)), .val (.ref r6), .val (.ref b56)] [])
    refine own_stW (fun _ kq => XS.iconst X63.here hx rfl (hb hby at_65) kq) ?_
    show own_EndsW _ _ _ _ _ _ _ T63 (mkF m 66 #[.val (.int p1), .val (.int (6 : Int32)), .val (.ref r6), .val (.ref b56)] [(.int (1 : Int32))])
    refine own_stW (fun _ kq => XS.goto X63.here hx rfl (pc0 := 66) (pc' := 70) rfl (hb hby at_66) (by decide) (by decide) kq) ?_
    show own_EndsW _ _ _ _ _ _ _ T63 (mkF m 70 #[.val (.int p1), .val (.int (6 : Int32)), .val (.ref r6), .val (.ref b56)] [(.int (1 : Int32))])
    refine own_retNW X63 hS (by rw [e63]; exact hk) hx (t := .boolean) Bd.returns (by simp) (hb hby at_70) hlk (by decide) (by decide) (w := (1 : Int32)) (by decide) ?_
    show Q_rm_law Z p1 r0 rD r3 r5 r6 r4 r2 r1 rL h0 n0 _ T63.heap _
    rw [e63]
    exact ⟨rfl, N63⟩
set_option maxRecDepth 65536 in
set_option maxHeartbeats 40000000 in
theorem comes_1 {Post : Tables → Env → Array Value → State → Outcome → State → Prop} (hpost : ∀ tb e args s v u, (limb_1_1.after args s (.returned v) u = true ∧ limb_1_2.after args s (.returned v) u = true ∧ True) → ReturnedEndW s (.returned v) u (Jvm.fieldLocs frame_1_writes args s ++ Jvm.arrayLocs frame_1_arrays args s ++ Jvm.staticLocs frame_1_statics s) 16 1152 → Post tb e args s (.returned v) u) :
    ArmFor flags0 classFile x code maxLocals ret World_1 tables_1 room_1 Calls_1 rest_1 Pre_1 Post := by
  intro l hfl _ _ p e ha hc hk s m args below hf hA hF happ hP
  obtain ⟨hcalls, hrest, hpre⟩ := hP
  obtain ⟨-, -, -, hnamed, -, -, -, hat⟩ := (Spec.applies_iff hf).mp happ
  obtain ⟨hg, hn⟩ := and_e (Cond.before_iff.mp (show (Jvm.Cond.and given_1 narrow_1).before args s = true from hpre))
  obtain ⟨g0, hg⟩ := and_e hg
  have g1 := hg
  obtain ⟨w0, rfl⟩ : ∃ w0 : Value, args = #[w0] := by
    have hs : args.size = 1 := by simpa [Cond.value, given_1] using g0
    obtain ⟨L⟩ := args
    match L, hs with
    | [w0], _ => exact ⟨w0, rfl⟩
  have hw := fun d (hd : d ∈ tables_1) => atoms_spec (ws := Jvm.Cond.code x code maxLocals ret :: tables_1) hat d (List.mem_cons_of_mem _ hd)
  obtain ⟨hsets, hown0⟩ := atoms_of _ (rest_1_c_eq ▸ (show rest_1_c.before _ s = true from hrest))
  obtain ⟨i0, ei0⟩ := is_v g1
  obtain rfl : w0 = (.int i0) := Option.some.inj ei0
  obtain ⟨c0, hn⟩ := and_e hn
  obtain ⟨c1, hn⟩ := and_e hn
  obtain ⟨c2, hn⟩ := and_e hn
  obtain ⟨c3, hn⟩ := and_e hn
  obtain ⟨c4, hn⟩ := and_e hn
  obtain ⟨c5, hn⟩ := and_e hn
  obtain ⟨c6, hn⟩ := and_e hn
  have c7 := hn
  obtain ⟨r0, v_0⟩ := exa_v c0
  have E_0 := Exa.start v_0 c0
  have S_0 := Sta.start v_0 (Or.inr ⟨(hw _ (List.mem_of_getElem? (i := 6) rfl)), (hw _ (List.mem_of_getElem? (i := 7) rfl))⟩)
  obtain ⟨rD, v_D⟩ := exa_v c1
  have E_D := Exa.start v_D c1
  have S_D := Sta.start v_D (Or.inr ⟨(hw _ (List.mem_of_getElem? (i := 34) rfl)), (hw _ (List.mem_of_getElem? (i := 35) rfl))⟩)
  obtain ⟨r3, v_3⟩ := exa_v c2
  have E_3 := Exa.start v_3 c2
  have S_3 := Sta.start v_3 (Or.inr ⟨(hw _ (List.mem_of_getElem? (i := 6) rfl)), (hw _ (List.mem_of_getElem? (i := 98) rfl))⟩)
  obtain ⟨r5, v_5⟩ := exa_v c3
  have E_5 := Exa.start v_5 c3
  have S_5 := Sta.start v_5 (Or.inr ⟨(hw _ (List.mem_of_getElem? (i := 6) rfl)), (hw _ (List.mem_of_getElem? (i := 100) rfl))⟩)
  obtain ⟨r6, v_6⟩ := exa_v c4
  have E_6 := Exa.start v_6 c4
  have S_6 := Sta.start v_6 (Or.inr ⟨(hw _ (List.mem_of_getElem? (i := 6) rfl)), (hw _ (List.mem_of_getElem? (i := 102) rfl))⟩)
  obtain ⟨r4, v_4⟩ := exa_v c5
  have E_4 := Exa.start v_4 c5
  have S_4 := Sta.start v_4 (Or.inr ⟨(hw _ (List.mem_of_getElem? (i := 6) rfl)), (hw _ (List.mem_of_getElem? (i := 104) rfl))⟩)
  obtain ⟨r2, v_2⟩ := exa_v c6
  have E_2 := Exa.start v_2 c6
  have S_2 := Sta.start v_2 (Or.inr ⟨(hw _ (List.mem_of_getElem? (i := 6) rfl)), (hw _ (List.mem_of_getElem? (i := 106) rfl))⟩)
  obtain ⟨r1, v_1⟩ := exa_v c7
  have E_1 := Exa.start v_1 c7
  have S_1 := Sta.start v_1 (Or.inr ⟨(hw _ (List.mem_of_getElem? (i := 6) rfl)), (hw _ (List.mem_of_getElem? (i := 108) rfl))⟩)
  have j2 := Cond.before_iff.mp (hsets _ (List.mem_of_getElem? (i := 2) rfl))
  obtain ⟨rL, v_L⟩ := exa_v j2
  have S_L := Sta.start v_L (Or.inl (hsets _ (List.mem_of_getElem? (i := 1) rfl)))
  have G : own_W s r0 rD r3 r5 r6 r4 r2 r1 rL := ⟨S_0, E_0, S_D, E_D, S_3, E_3, S_5, E_5, S_6, E_6, S_4, E_4, S_2, E_2, S_1, E_1, S_L⟩
  obtain ⟨n, o, h1, h2, h3, _, L, rfl, ⟨rfl, N⟩, hq⟩ := rm_law l s _ hw tables_1 i0 r0 rD r3 r5 r6 r4 r2 r1 rL s.heap s.heap.size (Old.start s) G p e ha hc hk s m _ below hf ((Spec.applies_iff_loose hf).mp happ).1 ⟨rfl, State.Warmed39.refl s, rfl⟩ trivial
  refine ⟨n, _, h1, h2, h3, hpost _ _ _ _ _ _ ⟨Cond.after_iff.mpr rfl, Cond.after_iff.mpr (eq_i res_at (Term.int_eval (1)) rfl), trivial⟩ ⟨hq.1, hq.2.1, hq.2.2.1, (hq.2.2.2.sift fun y hy => Or.inr (N y hy)).mono (by decide) (by decide)⟩⟩
theorem main_1_1 : Claimed_1_1 := comes_1 fun _ _ _ _ _ _ h hF => ⟨h.1, hF⟩
theorem main_1_2 : Claimed_1_2 := comes_1 fun _ _ _ _ _ _ h hF => ⟨h.2.1, hF⟩
end Jvm.Pilot.@@N@@
namespace Jvm.Pilot.@@N@@
open Jvm Jvm.ClassFile Sem Op Lib Jvm.Free Jvm.Stand Jvm.Pilot.@@N@@.Jvm.D
/-! MADE BY PROGRAM (witnessworld.py) out of the Statement's table words and the real class files: 30 classes; the members and pool entries that the words name. The judged class is class 1, her method 1. -/
namespace start1
open Jvm.ClassFile
def u (s : String) : CpInfo := .utf8 (stringToUtf16 s)
/-- a pool by its gaps: so many unusable entries, then the entry; so many at the end -/
def gap : Nat → List CpInfo → List CpInfo
  | 0, r => r
  | n + 1, r => .unusable :: gap n r
def poolList (es : List (Nat × CpInfo)) (last : Nat) : List CpInfo := es.foldr (fun e r => gap e.1 (e.2 :: r)) (gap last [])
def pool (es : List (Nat × CpInfo)) (last : Nat) : Array CpInfo := ⟨poolList es last⟩
def fileOf (pool : Array CpInfo) (this : Nat) (attrs : Array Attribute := #[]) (ms : Array MethodInfo := #[]) (fl : Nat := 33) (sup : Nat := 0) (ifs : Array Nat := #[]) (fds : Array FieldInfo := #[]) : ClassFile where
  minorVersion := 0
  majorVersion := 65
  constantPool := pool
  accessFlags := fl
  thisClass := this
  superClass := sup
  interfaces := ifs
  fields := fds
  methods := ms
  attributes := attrs
def plain (name : String) (sup : Option ClassId) : Class where
  name := name
  kind := .ordinary
  loader := none
  accessFlags := 33
  super := sup
  interfaces := #[]
  cf := none
  fields := #[]
  methods := #[]
  instanceTypes := #[]
  staticTypes := #[]
  resolved := #[]
  callSites := []
  init := .initialized
  statics := none
  mirror := none

def pool0 : Array CpInfo := pool [(5, u "<init>"), (0, u "()V"), (1, .class_ 10), (1, u "java/lang/Object")] 113

def k0c0 : Code := { maxStack := 0, maxLocals := 1, code := object_method_1_code, exceptionTable := #[], attributes := #[] }
def k0m0 : Method := { name := "<init>", desc := "()V", sig := { parameters := [], returnType := none }, accessFlags := 1, code := some k0c0 }
/-- java/lang/Object -/
def k0 : Class := { plain "java/lang/Object" none with
  accessFlags := 33
  interfaces := #[]
  cf := some (fileOf pool0 8 #[] #[{ accessFlags := 1, nameIndex := 5, descriptorIndex := 6, attributes := #[] }] 33 0 #[] #[])
  fields := #[]
  methods := #[k0m0]
  instanceTypes := #[]
  staticTypes := #[]
  resolved := Array.replicate 124 none
  statics := none }

def pool1 : Array CpInfo := pool [(2, .class_ 4), (1, u "java/lang/Object"), (0, u "<init>"), (0, u "()V"), (0, .integer 2147483647), (0, .methodref 9 10), (0, .class_ 11), (0, .nameAndType 12 13), (0, u "com/example/clear_tx/cleartx/TransactionDefinitionOfPinLaw"), (0, u "pick"), (0, u "(I)Lcom/example/clear_tx/cleartx/Propagation;"), (0, .methodref 15 16), (0, .class_ 17), (0, .nameAndType 18 19), (0, u "com/example/clear_tx/cleartx/TransactionDefinition"), (0, u "of"), (0, u "(Lcom/example/clear_tx/cleartx/Propagation;)Lcom/example/clear_tx/cleartx/TransactionDefinition;"), (0, .methodref 15 21), (0, .nameAndType 22 23), (0, u "propagation"), (0, u "()Lcom/example/clear_tx/cleartx/Propagation;"), (0, .methodref 15 25), (0, .nameAndType 26 27), (0, u "isolation"), (0, u "()Lcom/example/clear_tx/cleartx/Isolation;"), (0, .fieldref 29 30), (0, .class_ 31), (0, .nameAndType 32 33), (0, u "com/example/clear_tx/cleartx/Isolation"), (0, u "DEFAULT"), (0, u "Lcom/example/clear_tx/cleartx/Isolation;"), (0, .methodref 15 35), (0, .nameAndType 36 37), (0, u "isReadOnly"), (0, u "()Z"), (0, .methodref 15 39), (0, .nameAndType 40 41), (0, u "timeout"), (0, u "()I"), (0, .methodref 15 43), (0, .nameAndType 44 45), (0, u "name"), (0, u "()Ljava/lang/String;"), (0, .methodref 15 47), (0, .nameAndType 48 45), (0, u "declaredOn"), (0, .fieldref 50 51), (0, .class_ 52), (0, .nameAndType 53 54), (0, u "com/example/clear_tx/cleartx/Propagation"), (0, u "REQUIRED"), (0, u "Lcom/example/clear_tx/cleartx/Propagation;"), (0, .fieldref 50 56), (0, .nameAndType 57 54), (0, u "SUPPORTS"), (0, .fieldref 50 59), (0, .nameAndType 60 54), (0, u "MANDATORY"), (0, .fieldref 50 62), (0, .nameAndType 63 54), (0, u "REQUIRES_NEW"), (0, .fieldref 50 65), (0, .nameAndType 66 54), (0, u "NOT_SUPPORTED"), (0, .fieldref 50 68), (0, .nameAndType 69 54), (0, u "NEVER"), (0, .fieldref 50 71), (0, .nameAndType 72 54), (0, u "NESTED"), (2, u "law"), (0, u "(I)Z")] 3

def k1m0 : Method := { name := "<init>", desc := "()V", sig := { parameters := [], returnType := none }, accessFlags := 1, code := none }
def k1c1 : Code := { maxStack := 2, maxLocals := 4, code := code, exceptionTable := #[], attributes := #[] }
def k1m1 : Method := { name := "law", desc := "(I)Z", sig := { parameters := [.int], returnType := some .boolean }, accessFlags := 9, code := some k1c1 }
def k1c2 : Code := { maxStack := 2, maxLocals := 1, code := method_3_code, exceptionTable := #[], attributes := #[] }
def k1m2 : Method := { name := "pick", desc := "(I)Lcom/example/clear_tx/cleartx/Propagation;", sig := { parameters := [.int], returnType := some (.object "com/example/clear_tx/cleartx/Propagation") }, accessFlags := 10, code := some k1c2 }
/-- com/example/clear_tx/cleartx/TransactionDefinitionOfPinLaw -/
def k1 : Class := { plain "com/example/clear_tx/cleartx/TransactionDefinitionOfPinLaw" (some 0) with
  accessFlags := 49
  interfaces := #[]
  cf := some (fileOf pool1 9 #[] #[{ accessFlags := 1, nameIndex := 5, descriptorIndex := 6, attributes := #[] }, { accessFlags := 9, nameIndex := 75, descriptorIndex := 76, attributes := #[] }, { accessFlags := 10, nameIndex := 12, descriptorIndex := 13, attributes := #[] }] 49 2 #[] #[])
  fields := #[]
  methods := #[k1m0, k1m1, k1m2]
  instanceTypes := #[]
  staticTypes := #[]
  resolved := Array.replicate 80 none
  statics := none }

def pool2 : Array CpInfo := pool [(1, .class_ 2), (0, u "java/lang/constant/Constable"), (0, .class_ 4), (0, u "java/lang/Object")] 6

/-- java/lang/constant/Constable -/
def k2 : Class := { plain "java/lang/constant/Constable" (some 0) with
  accessFlags := 1537
  interfaces := #[]
  cf := some (fileOf pool2 1 #[] #[] 1537 3 #[] #[])
  fields := #[]
  methods := #[]
  instanceTypes := #[]
  staticTypes := #[]
  resolved := Array.replicate 11 none
  statics := none }

def pool3 : Array CpInfo := pool [(1, .class_ 2), (0, u "java/lang/Comparable"), (0, .class_ 4), (0, u "java/lang/Object")] 7

/-- java/lang/Comparable -/
def k3 : Class := { plain "java/lang/Comparable" (some 0) with
  accessFlags := 1537
  interfaces := #[]
  cf := some (fileOf pool3 1 #[] #[] 1537 3 #[] #[])
  fields := #[]
  methods := #[]
  instanceTypes := #[]
  staticTypes := #[]
  resolved := Array.replicate 12 none
  statics := none }

def pool4 : Array CpInfo := pool [(1, .class_ 2), (0, u "java/io/Serializable"), (0, .class_ 4), (0, u "java/lang/Object")] 2

/-- java/io/Serializable -/
def k4 : Class := { plain "java/io/Serializable" (some 0) with
  accessFlags := 1537
  interfaces := #[]
  cf := some (fileOf pool4 1 #[] #[] 1537 3 #[] #[])
  fields := #[]
  methods := #[]
  instanceTypes := #[]
  staticTypes := #[]
  resolved := Array.replicate 7 none
  statics := none }

def pool5 : Array CpInfo := pool [(2, .class_ 4), (1, u "java/lang/Enum"), (0, u "name"), (0, u "Ljava/lang/String;"), (2, u "ordinal"), (0, u "I"), (1, .class_ 14), (1, u "java/lang/Object"), (4, u "hash"), (86, .class_ 108), (1, u "java/lang/Enum$EnumDesc"), (2, .class_ 112), (0, u "java/lang/constant/Constable"), (0, .class_ 114), (0, u "java/lang/Comparable"), (0, .class_ 116), (0, u "java/io/Serializable")] 87

/-- java/lang/Enum -/
def k5 : Class := { plain "java/lang/Enum" (some 0) with
  accessFlags := 1057
  interfaces := #[2, 3, 4]
  cf := some (fileOf pool5 2 #[.nestMembers #[106]] #[] 1057 12 #[111, 113, 115] #[{ accessFlags := 18, nameIndex := 5, descriptorIndex := 6, attributes := #[] }, { accessFlags := 18, nameIndex := 9, descriptorIndex := 10, attributes := #[] }, { accessFlags := 2, nameIndex := 19, descriptorIndex := 10, attributes := #[] }])
  fields := #[{ name := "name", type := (.object "java/lang/String"), accessFlags := 18, slot := 0, constantValue := 0 }, { name := "ordinal", type := .int, accessFlags := 18, slot := 1, constantValue := 0 }, { name := "hash", type := .int, accessFlags := 2, slot := 2, constantValue := 0 }]
  methods := #[]
  instanceTypes := #[(.object "java/lang/String"), .int, .int]
  staticTypes := #[]
  resolved := Array.replicate 204 none
  statics := none }

def pool6 : Array CpInfo := pool [(1, .class_ 2), (0, u "com/example/clear_tx/cleartx/Propagation"), (2, u "REQUIRED"), (0, u "Lcom/example/clear_tx/cleartx/Propagation;"), (2, u "SUPPORTS"), (2, u "MANDATORY"), (2, u "REQUIRES_NEW"), (2, u "NOT_SUPPORTED"), (2, u "NEVER"), (2, u "NESTED"), (2, u "$VALUES"), (0, u "[Lcom/example/clear_tx/cleartx/Propagation;"), (6, .class_ 37), (1, u "java/lang/Enum")] 29

/-- com/example/clear_tx/cleartx/Propagation -/
def k6 : Class := { plain "com/example/clear_tx/cleartx/Propagation" (some 5) with
  accessFlags := 16433
  interfaces := #[]
  cf := some (fileOf pool6 1 #[] #[] 16433 35 #[] #[{ accessFlags := 16409, nameIndex := 5, descriptorIndex := 6, attributes := #[] }, { accessFlags := 16409, nameIndex := 9, descriptorIndex := 6, attributes := #[] }, { accessFlags := 16409, nameIndex := 12, descriptorIndex := 6, attributes := #[] }, { accessFlags := 16409, nameIndex := 15, descriptorIndex := 6, attributes := #[] }, { accessFlags := 16409, nameIndex := 18, descriptorIndex := 6, attributes := #[] }, { accessFlags := 16409, nameIndex := 21, descriptorIndex := 6, attributes := #[] }, { accessFlags := 16409, nameIndex := 24, descriptorIndex := 6, attributes := #[] }, { accessFlags := 4122, nameIndex := 27, descriptorIndex := 28, attributes := #[] }])
  fields := #[{ name := "REQUIRED", type := (.object "com/example/clear_tx/cleartx/Propagation"), accessFlags := 16409, slot := 0, constantValue := 0 }, { name := "SUPPORTS", type := (.object "com/example/clear_tx/cleartx/Propagation"), accessFlags := 16409, slot := 1, constantValue := 0 }, { name := "MANDATORY", type := (.object "com/example/clear_tx/cleartx/Propagation"), accessFlags := 16409, slot := 2, constantValue := 0 }, { name := "REQUIRES_NEW", type := (.object "com/example/clear_tx/cleartx/Propagation"), accessFlags := 16409, slot := 3, constantValue := 0 }, { name := "NOT_SUPPORTED", type := (.object "com/example/clear_tx/cleartx/Propagation"), accessFlags := 16409, slot := 4, constantValue := 0 }, { name := "NEVER", type := (.object "com/example/clear_tx/cleartx/Propagation"), accessFlags := 16409, slot := 5, constantValue := 0 }, { name := "NESTED", type := (.object "com/example/clear_tx/cleartx/Propagation"), accessFlags := 16409, slot := 6, constantValue := 0 }, { name := "$VALUES", type := (.array (.object "com/example/clear_tx/cleartx/Propagation")), accessFlags := 4122, slot := 7, constantValue := 0 }]
  methods := #[]
  instanceTypes := #[(.object "java/lang/String"), .int, .int]
  staticTypes := #[(.object "com/example/clear_tx/cleartx/Propagation"), (.object "com/example/clear_tx/cleartx/Propagation"), (.object "com/example/clear_tx/cleartx/Propagation"), (.object "com/example/clear_tx/cleartx/Propagation"), (.object "com/example/clear_tx/cleartx/Propagation"), (.object "com/example/clear_tx/cleartx/Propagation"), (.object "com/example/clear_tx/cleartx/Propagation"), (.array (.object "com/example/clear_tx/cleartx/Propagation"))]
  resolved := Array.replicate 67 none
  statics := some 0 }

def pool7 : Array CpInfo := pool [(1, .methodref 2 3), (0, .class_ 4), (0, .nameAndType 5 6), (0, u "java/lang/Object"), (0, u "<init>"), (0, u "()V"), (0, .fieldref 8 9), (0, .class_ 10), (0, .nameAndType 11 12), (0, u "com/example/clear_tx/cleartx/TransactionDefinition"), (0, u "settings"), (0, u "Lcom/example/clear_tx/cleartx/TransactionDefinition$Settings;"), (0, .string 14), (0, u "Propagation must not be null!"), (0, .methodref 16 17), (0, .class_ 18), (0, .nameAndType 19 20), (0, u "java/util/Objects"), (0, u "requireNonNull"), (0, u "(Ljava/lang/Object;Ljava/lang/String;)Ljava/lang/Object;"), (0, .class_ 22), (0, u "com/example/clear_tx/cleartx/TransactionDefinition$Settings"), (0, .methodref 21 3), (0, .fieldref 21 25), (0, .nameAndType 26 27), (0, u "propagation"), (0, u "Lcom/example/clear_tx/cleartx/Propagation;"), (0, .methodref 8 29), (0, .nameAndType 5 30), (0, u "(Lcom/example/clear_tx/cleartx/TransactionDefinition$Settings;)V"), (39, u "()Lcom/example/clear_tx/cleartx/Propagation;"), (2, u "of"), (0, u "(Lcom/example/clear_tx/cleartx/Propagation;)Lcom/example/clear_tx/cleartx/TransactionDefinition;"), (2, u "isolation"), (0, u "()Lcom/example/clear_tx/cleartx/Isolation;"), (6, u "readOnly"), (0, u "()Z"), (6, u "timeout"), (0, u "()I"), (21, u "()Ljava/lang/String;"), (11, u "name"), (8, .fieldref 21 138), (0, .nameAndType 77 139), (0, u "Lcom/example/clear_tx/cleartx/Isolation;"), (0, .fieldref 21 141), (0, .nameAndType 85 142), (0, u "Z"), (0, .fieldref 21 144), (0, .nameAndType 93 145), (0, u "I"), (0, .fieldref 21 147), (0, .nameAndType 128 148), (0, u "Ljava/lang/String;"), (0, .fieldref 21 150), (0, .nameAndType 151 148), (0, u "declaredOn"), (71, u "SQL_FAILURE"), (0, u "Lcom/example/clear_tx/cleartx/RollbackRule;"), (41, u "NO_TIMEOUT"), (11, u "isReadOnly")] 69

def k7c0 : Code := { maxStack := 2, maxLocals := 2, code := prog_21_method_1_code, exceptionTable := #[], attributes := #[] }
def k7m0 : Method := { name := "<init>", desc := "(Lcom/example/clear_tx/cleartx/TransactionDefinition$Settings;)V", sig := { parameters := [(.object "com/example/clear_tx/cleartx/TransactionDefinition$Settings")], returnType := none }, accessFlags := 2, code := some k7c0 }
def k7c1 : Code := { maxStack := 3, maxLocals := 2, code := prog_21_method_2_code, exceptionTable := #[], attributes := #[] }
def k7m1 : Method := { name := "of", desc := "(Lcom/example/clear_tx/cleartx/Propagation;)Lcom/example/clear_tx/cleartx/TransactionDefinition;", sig := { parameters := [(.object "com/example/clear_tx/cleartx/Propagation")], returnType := some (.object "com/example/clear_tx/cleartx/TransactionDefinition") }, accessFlags := 9, code := some k7c1 }
def k7c2 : Code := { maxStack := 1, maxLocals := 1, code := prog_21_method_4_code, exceptionTable := #[], attributes := #[] }
def k7m2 : Method := { name := "propagation", desc := "()Lcom/example/clear_tx/cleartx/Propagation;", sig := { parameters := [], returnType := some (.object "com/example/clear_tx/cleartx/Propagation") }, accessFlags := 1, code := some k7c2 }
def k7c3 : Code := { maxStack := 1, maxLocals := 1, code := prog_21_method_5_code, exceptionTable := #[], attributes := #[] }
def k7m3 : Method := { name := "isolation", desc := "()Lcom/example/clear_tx/cleartx/Isolation;", sig := { parameters := [], returnType := some (.object "com/example/clear_tx/cleartx/Isolation") }, accessFlags := 1, code := some k7c3 }
def k7c4 : Code := { maxStack := 1, maxLocals := 1, code := prog_21_method_6_code, exceptionTable := #[], attributes := #[] }
def k7m4 : Method := { name := "isReadOnly", desc := "()Z", sig := { parameters := [], returnType := some .boolean }, accessFlags := 1, code := some k7c4 }
def k7c5 : Code := { maxStack := 1, maxLocals := 1, code := prog_21_method_7_code, exceptionTable := #[], attributes := #[] }
def k7m5 : Method := { name := "timeout", desc := "()I", sig := { parameters := [], returnType := some .int }, accessFlags := 1, code := some k7c5 }
def k7c6 : Code := { maxStack := 1, maxLocals := 1, code := prog_21_method_8_code, exceptionTable := #[], attributes := #[] }
def k7m6 : Method := { name := "name", desc := "()Ljava/lang/String;", sig := { parameters := [], returnType := some (.object "java/lang/String") }, accessFlags := 1, code := some k7c6 }
def k7c7 : Code := { maxStack := 1, maxLocals := 1, code := prog_21_method_9_code, exceptionTable := #[], attributes := #[] }
def k7m7 : Method := { name := "declaredOn", desc := "()Ljava/lang/String;", sig := { parameters := [], returnType := some (.object "java/lang/String") }, accessFlags := 0, code := some k7c7 }
/-- com/example/clear_tx/cleartx/TransactionDefinition -/
def k7 : Class := { plain "com/example/clear_tx/cleartx/TransactionDefinition" (some 0) with
  accessFlags := 49
  interfaces := #[]
  cf := some (fileOf pool7 8 #[.nestMembers #[21]] #[{ accessFlags := 2, nameIndex := 5, descriptorIndex := 30, attributes := #[] }, { accessFlags := 9, nameIndex := 73, descriptorIndex := 74, attributes := #[] }, { accessFlags := 1, nameIndex := 26, descriptorIndex := 70, attributes := #[] }, { accessFlags := 1, nameIndex := 77, descriptorIndex := 78, attributes := #[] }, { accessFlags := 1, nameIndex := 278, descriptorIndex := 86, attributes := #[] }, { accessFlags := 1, nameIndex := 93, descriptorIndex := 94, attributes := #[] }, { accessFlags := 1, nameIndex := 128, descriptorIndex := 116, attributes := #[] }, { accessFlags := 0, nameIndex := 151, descriptorIndex := 116, attributes := #[] }] 49 2 #[] #[{ accessFlags := 25, nameIndex := 266, descriptorIndex := 145, attributes := #[] }, { accessFlags := 26, nameIndex := 223, descriptorIndex := 224, attributes := #[] }, { accessFlags := 18, nameIndex := 11, descriptorIndex := 12, attributes := #[] }])
  fields := #[{ name := "NO_TIMEOUT", type := .int, accessFlags := 25, slot := 0, constantValue := 0 }, { name := "SQL_FAILURE", type := (.object "com/example/clear_tx/cleartx/RollbackRule"), accessFlags := 26, slot := 1, constantValue := 0 }, { name := "settings", type := (.object "com/example/clear_tx/cleartx/TransactionDefinition$Settings"), accessFlags := 18, slot := 0, constantValue := 0 }]
  methods := #[k7m0, k7m1, k7m2, k7m3, k7m4, k7m5, k7m6, k7m7]
  instanceTypes := #[(.object "com/example/clear_tx/cleartx/TransactionDefinition$Settings")]
  staticTypes := #[.int, (.object "com/example/clear_tx/cleartx/RollbackRule")]
  resolved := (Array.replicate 348 none) |>.setIfInBounds 21 (some (.cls 12)) |>.setIfInBounds 23 (some (.method ⟨12, 0⟩)) |>.setIfInBounds 24 (some (.field 12 0)) |>.setIfInBounds 137 (some (.field 12 1)) |>.setIfInBounds 140 (some (.field 12 2)) |>.setIfInBounds 143 (some (.field 12 3)) |>.setIfInBounds 146 (some (.field 12 5)) |>.setIfInBounds 149 (some (.field 12 6))
  statics := none }

def pool8 : Array CpInfo := pool [(2, .class_ 4), (1, u "java/lang/CharSequence"), (42, .class_ 48), (0, u "java/lang/CharSequence$1CodePointIterator"), (10, .class_ 60), (0, u "java/lang/CharSequence$1CharIterator"), (5, .class_ 67), (0, u "java/lang/Object")] 63

/-- java/lang/CharSequence -/
def k8 : Class := { plain "java/lang/CharSequence" (some 0) with
  accessFlags := 1537
  interfaces := #[]
  cf := some (fileOf pool8 2 #[.nestMembers #[47, 59]] #[] 1537 66 #[] #[])
  fields := #[]
  methods := #[]
  instanceTypes := #[]
  staticTypes := #[]
  resolved := Array.replicate 131 none
  statics := none }

def pool9 : Array CpInfo := pool [(1, .class_ 2), (0, u "java/lang/constant/ConstantDesc"), (0, .class_ 4), (0, u "java/lang/Object")] 32

/-- java/lang/constant/ConstantDesc -/
def k9 : Class := { plain "java/lang/constant/ConstantDesc" (some 0) with
  accessFlags := 1537
  interfaces := #[]
  cf := some (fileOf pool9 1 #[] #[] 1537 3 #[] #[])
  fields := #[]
  methods := #[]
  instanceTypes := #[]
  staticTypes := #[]
  resolved := Array.replicate 37 none
  statics := none }

def pool10 : Array CpInfo := pool [(2, .class_ 4), (1, u "java/lang/Object"), (0, u "<init>"), (0, u "()V"), (3, .class_ 12), (1, u "java/lang/String"), (0, u "value"), (0, u "[B"), (2, u "coder"), (0, u "B"), (2, u "hash"), (0, u "I"), (2, u "hashIsZero"), (0, u "Z"), (13, u "COMPACT_STRINGS"), (534, .class_ 576), (0, u "java/lang/CharSequence"), (22, u "CASE_INSENSITIVE_ORDER"), (0, u "Ljava/util/Comparator;"), (500, u "serialPersistentFields"), (0, u "[Ljava/io/ObjectStreamField;"), (0, .class_ 1104), (0, u "java/lang/String$CaseInsensitiveComparator"), (1, .class_ 1107), (0, u "java/io/Serializable"), (0, .class_ 1109), (0, u "java/lang/Comparable"), (0, .class_ 1111), (0, u "java/lang/constant/Constable"), (0, .class_ 1113), (0, u "java/lang/constant/ConstantDesc"), (2, u "serialVersionUID"), (0, u "J"), (3, u "REPL"), (0, u "C"), (2, u "LATIN1"), (1, u "UTF16")] 323

def k10m0 : Method := { name := "<init>", desc := "()V", sig := { parameters := [], returnType := none }, accessFlags := 1, code := none }
/-- java/lang/String -/
def k10 : Class := { plain "java/lang/String" (some 0) with
  accessFlags := 49
  interfaces := #[4, 3, 8, 2, 9]
  cf := some (fileOf pool10 10 #[.nestMembers #[1103]] #[{ accessFlags := 1, nameIndex := 5, descriptorIndex := 6, attributes := #[] }] 49 2 #[1106, 1108, 575, 1110, 1112] #[{ accessFlags := 18, nameIndex := 13, descriptorIndex := 14, attributes := #[] }, { accessFlags := 18, nameIndex := 17, descriptorIndex := 18, attributes := #[] }, { accessFlags := 2, nameIndex := 21, descriptorIndex := 22, attributes := #[] }, { accessFlags := 2, nameIndex := 25, descriptorIndex := 26, attributes := #[] }, { accessFlags := 26, nameIndex := 1116, descriptorIndex := 1117, attributes := #[] }, { accessFlags := 24, nameIndex := 40, descriptorIndex := 26, attributes := #[] }, { accessFlags := 26, nameIndex := 1101, descriptorIndex := 1102, attributes := #[] }, { accessFlags := 26, nameIndex := 1121, descriptorIndex := 1122, attributes := #[] }, { accessFlags := 25, nameIndex := 599, descriptorIndex := 600, attributes := #[] }, { accessFlags := 24, nameIndex := 1125, descriptorIndex := 18, attributes := #[] }, { accessFlags := 24, nameIndex := 1127, descriptorIndex := 18, attributes := #[] }])
  fields := #[{ name := "value", type := (.array .byte), accessFlags := 18, slot := 0, constantValue := 0 }, { name := "coder", type := .byte, accessFlags := 18, slot := 1, constantValue := 0 }, { name := "hash", type := .int, accessFlags := 2, slot := 2, constantValue := 0 }, { name := "hashIsZero", type := .boolean, accessFlags := 2, slot := 3, constantValue := 0 }, { name := "serialVersionUID", type := .long, accessFlags := 26, slot := 0, constantValue := 0 }, { name := "COMPACT_STRINGS", type := .boolean, accessFlags := 24, slot := 1, constantValue := 0 }, { name := "serialPersistentFields", type := (.array (.object "java/io/ObjectStreamField")), accessFlags := 26, slot := 2, constantValue := 0 }, { name := "REPL", type := .char, accessFlags := 26, slot := 3, constantValue := 0 }, { name := "CASE_INSENSITIVE_ORDER", type := (.object "java/util/Comparator"), accessFlags := 25, slot := 4, constantValue := 0 }, { name := "LATIN1", type := .byte, accessFlags := 24, slot := 5, constantValue := 0 }, { name := "UTF16", type := .byte, accessFlags := 24, slot := 6, constantValue := 0 }]
  methods := #[k10m0]
  instanceTypes := #[(.array .byte), .byte, .int, .boolean]
  staticTypes := #[.long, .boolean, (.array (.object "java/io/ObjectStreamField")), .char, (.object "java/util/Comparator"), .byte, .byte]
  resolved := Array.replicate 1451 none
  statics := none }

def pool11 : Array CpInfo := pool [(2, .class_ 4), (1, u "java/lang/Object"), (0, u "<init>"), (0, u "()V"), (35, .class_ 44), (1, u "java/util/Objects"), (0, u "requireNonNull"), (48, u "(Ljava/lang/Object;Ljava/lang/String;)Ljava/lang/Object;")] 89

def k11m0 : Method := { name := "<init>", desc := "()V", sig := { parameters := [], returnType := none }, accessFlags := 2, code := none }
def k11c1 : Code := { maxStack := 3, maxLocals := 2, code := jdk_31_method_11_code, exceptionTable := #[], attributes := #[] }
def k11m1 : Method := { name := "requireNonNull", desc := "(Ljava/lang/Object;Ljava/lang/String;)Ljava/lang/Object;", sig := { parameters := [(.object "java/lang/Object"), (.object "java/lang/String")], returnType := some (.object "java/lang/Object") }, accessFlags := 9, code := some k11c1 }
/-- java/util/Objects -/
def k11 : Class := { plain "java/util/Objects" (some 0) with
  accessFlags := 49
  interfaces := #[]
  cf := some (fileOf pool11 42 #[] #[{ accessFlags := 2, nameIndex := 5, descriptorIndex := 6, attributes := #[] }, { accessFlags := 9, nameIndex := 45, descriptorIndex := 94, attributes := #[] }] 49 2 #[] #[])
  fields := #[]
  methods := #[k11m0, k11m1]
  instanceTypes := #[]
  staticTypes := #[]
  resolved := Array.replicate 184 none
  statics := none }

def pool12 : Array CpInfo := pool [(1, .class_ 2), (0, u "com/example/clear_tx/cleartx/TransactionDefinition"), (0, .methodref 4 5), (0, .class_ 6), (0, .nameAndType 7 8), (0, u "java/lang/Object"), (0, u "<init>"), (0, u "()V"), (0, .fieldref 10 11), (0, .class_ 12), (0, .nameAndType 13 14), (0, u "com/example/clear_tx/cleartx/Isolation"), (0, u "DEFAULT"), (0, u "Lcom/example/clear_tx/cleartx/Isolation;"), (0, .fieldref 16 17), (0, .class_ 18), (0, .nameAndType 19 14), (0, u "com/example/clear_tx/cleartx/TransactionDefinition$Settings"), (0, u "isolation"), (0, .fieldref 16 21), (0, .nameAndType 22 23), (0, u "timeout"), (0, u "I"), (0, .interfaceMethodref 25 26), (0, .class_ 27), (0, .nameAndType 28 29), (0, u "java/util/List"), (0, u "of"), (0, u "()Ljava/util/List;"), (0, .fieldref 16 31), (0, .nameAndType 32 33), (0, u "rollbackRules"), (0, u "Ljava/util/List;"), (3, u "propagation"), (0, u "Lcom/example/clear_tx/cleartx/Propagation;"), (2, u "readOnly"), (0, u "Z"), (2, u "name"), (0, u "Ljava/lang/String;"), (2, u "declaredOn")] 9

def k12c0 : Code := { maxStack := 2, maxLocals := 1, code := prog_22_method_1_code, exceptionTable := #[], attributes := #[] }
def k12m0 : Method := { name := "<init>", desc := "()V", sig := { parameters := [], returnType := none }, accessFlags := 2, code := some k12c0 }
/-- com/example/clear_tx/cleartx/TransactionDefinition$Settings -/
def k12 : Class := { plain "com/example/clear_tx/cleartx/TransactionDefinition$Settings" (some 0) with
  accessFlags := 48
  interfaces := #[]
  cf := some (fileOf pool12 16 #[.nestHost 1] #[{ accessFlags := 2, nameIndex := 7, descriptorIndex := 8, attributes := #[] }] 48 4 #[] #[{ accessFlags := 2, nameIndex := 37, descriptorIndex := 38, attributes := #[] }, { accessFlags := 2, nameIndex := 19, descriptorIndex := 14, attributes := #[] }, { accessFlags := 2, nameIndex := 41, descriptorIndex := 42, attributes := #[] }, { accessFlags := 2, nameIndex := 22, descriptorIndex := 23, attributes := #[] }, { accessFlags := 2, nameIndex := 32, descriptorIndex := 33, attributes := #[] }, { accessFlags := 2, nameIndex := 45, descriptorIndex := 46, attributes := #[] }, { accessFlags := 2, nameIndex := 49, descriptorIndex := 46, attributes := #[] }])
  fields := #[{ name := "propagation", type := (.object "com/example/clear_tx/cleartx/Propagation"), accessFlags := 2, slot := 0, constantValue := 0 }, { name := "isolation", type := (.object "com/example/clear_tx/cleartx/Isolation"), accessFlags := 2, slot := 1, constantValue := 0 }, { name := "readOnly", type := .boolean, accessFlags := 2, slot := 2, constantValue := 0 }, { name := "timeout", type := .int, accessFlags := 2, slot := 3, constantValue := 0 }, { name := "rollbackRules", type := (.object "java/util/List"), accessFlags := 2, slot := 4, constantValue := 0 }, { name := "name", type := (.object "java/lang/String"), accessFlags := 2, slot := 5, constantValue := 0 }, { name := "declaredOn", type := (.object "java/lang/String"), accessFlags := 2, slot := 6, constantValue := 0 }]
  methods := #[k12m0]
  instanceTypes := #[(.object "com/example/clear_tx/cleartx/Propagation"), (.object "com/example/clear_tx/cleartx/Isolation"), .boolean, .int, (.object "java/util/List"), (.object "java/lang/String"), (.object "java/lang/String")]
  staticTypes := #[]
  resolved := Array.replicate 59 none
  statics := none }

def pool13 : Array CpInfo := pool [(1, .class_ 2), (0, u "com/example/clear_tx/cleartx/Isolation"), (2, u "DEFAULT"), (0, u "Lcom/example/clear_tx/cleartx/Isolation;"), (2, u "READ_UNCOMMITTED"), (2, u "READ_COMMITTED"), (2, u "REPEATABLE_READ"), (2, u "SERIALIZABLE"), (2, u "$VALUES"), (0, u "[Lcom/example/clear_tx/cleartx/Isolation;"), (6, .class_ 31), (1, u "java/lang/Enum")] 27

/-- com/example/clear_tx/cleartx/Isolation -/
def k13 : Class := { plain "com/example/clear_tx/cleartx/Isolation" (some 5) with
  accessFlags := 16433
  interfaces := #[]
  cf := some (fileOf pool13 1 #[] #[] 16433 29 #[] #[{ accessFlags := 16409, nameIndex := 5, descriptorIndex := 6, attributes := #[] }, { accessFlags := 16409, nameIndex := 9, descriptorIndex := 6, attributes := #[] }, { accessFlags := 16409, nameIndex := 12, descriptorIndex := 6, attributes := #[] }, { accessFlags := 16409, nameIndex := 15, descriptorIndex := 6, attributes := #[] }, { accessFlags := 16409, nameIndex := 18, descriptorIndex := 6, attributes := #[] }, { accessFlags := 4122, nameIndex := 21, descriptorIndex := 22, attributes := #[] }])
  fields := #[{ name := "DEFAULT", type := (.object "com/example/clear_tx/cleartx/Isolation"), accessFlags := 16409, slot := 0, constantValue := 0 }, { name := "READ_UNCOMMITTED", type := (.object "com/example/clear_tx/cleartx/Isolation"), accessFlags := 16409, slot := 1, constantValue := 0 }, { name := "READ_COMMITTED", type := (.object "com/example/clear_tx/cleartx/Isolation"), accessFlags := 16409, slot := 2, constantValue := 0 }, { name := "REPEATABLE_READ", type := (.object "com/example/clear_tx/cleartx/Isolation"), accessFlags := 16409, slot := 3, constantValue := 0 }, { name := "SERIALIZABLE", type := (.object "com/example/clear_tx/cleartx/Isolation"), accessFlags := 16409, slot := 4, constantValue := 0 }, { name := "$VALUES", type := (.array (.object "com/example/clear_tx/cleartx/Isolation")), accessFlags := 4122, slot := 5, constantValue := 0 }]
  methods := #[]
  instanceTypes := #[(.object "java/lang/String"), .int, .int]
  staticTypes := #[(.object "com/example/clear_tx/cleartx/Isolation"), (.object "com/example/clear_tx/cleartx/Isolation"), (.object "com/example/clear_tx/cleartx/Isolation"), (.object "com/example/clear_tx/cleartx/Isolation"), (.object "com/example/clear_tx/cleartx/Isolation"), (.array (.object "com/example/clear_tx/cleartx/Isolation"))]
  resolved := Array.replicate 59 none
  statics := some 1 }

def pool14 : Array CpInfo := pool [(8, .class_ 10), (1, u "java/lang/Iterable"), (24, .class_ 36), (0, u "java/lang/Object")] 25

/-- java/lang/Iterable -/
def k14 : Class := { plain "java/lang/Iterable" (some 0) with
  accessFlags := 1537
  interfaces := #[]
  cf := some (fileOf pool14 8 #[] #[] 1537 35 #[] #[])
  fields := #[]
  methods := #[]
  instanceTypes := #[]
  staticTypes := #[]
  resolved := Array.replicate 62 none
  statics := none }

def pool15 : Array CpInfo := pool [(10, .class_ 12), (1, u "java/util/Collection"), (47, .class_ 61), (0, u "java/lang/Object"), (0, .class_ 63), (0, u "java/lang/Iterable")] 51

/-- java/util/Collection -/
def k15 : Class := { plain "java/util/Collection" (some 0) with
  accessFlags := 1537
  interfaces := #[14]
  cf := some (fileOf pool15 10 #[] #[] 1537 60 #[62] #[])
  fields := #[]
  methods := #[]
  instanceTypes := #[]
  staticTypes := #[]
  resolved := Array.replicate 115 none
  statics := none }

def pool16 : Array CpInfo := pool [(8, .class_ 10), (1, u "java/util/SequencedCollection"), (15, .class_ 27), (0, u "java/lang/Object"), (0, .class_ 29), (0, u "java/util/Collection")] 27

/-- java/util/SequencedCollection -/
def k16 : Class := { plain "java/util/SequencedCollection" (some 0) with
  accessFlags := 1537
  interfaces := #[15]
  cf := some (fileOf pool16 8 #[] #[] 1537 26 #[28] #[])
  fields := #[]
  methods := #[]
  instanceTypes := #[]
  staticTypes := #[]
  resolved := Array.replicate 57 none
  statics := none }

def pool17 : Array CpInfo := pool [(8, .class_ 10), (1, u "java/util/List"), (77, u "of"), (1, .fieldref 91 92), (0, .class_ 93), (0, .nameAndType 94 95), (0, u "java/util/ImmutableCollections"), (0, u "EMPTY_LIST"), (0, u "Ljava/util/ImmutableCollections$ListN;"), (7, .class_ 104), (0, u "java/lang/Object"), (14, u "()Ljava/util/List;"), (0, .class_ 121), (0, u "java/util/SequencedCollection")] 129

def k17c0 : Code := { maxStack := 1, maxLocals := 0, code := jdk_40_method_36_code, exceptionTable := #[], attributes := #[] }
def k17m0 : Method := { name := "of", desc := "()Ljava/util/List;", sig := { parameters := [], returnType := some (.object "java/util/List") }, accessFlags := 9, code := some k17c0 }
/-- java/util/List -/
def k17 : Class := { plain "java/util/List" (some 0) with
  accessFlags := 1537
  interfaces := #[16]
  cf := some (fileOf pool17 8 #[] #[{ accessFlags := 9, nameIndex := 88, descriptorIndex := 119, attributes := #[] }] 1537 103 #[120] #[])
  fields := #[]
  methods := #[k17m0]
  instanceTypes := #[]
  staticTypes := #[]
  resolved := Array.replicate 251 none
  statics := none }

def pool18 : Array CpInfo := pool [(2, .class_ 4), (1, u "java/lang/Object"), (0, u "<init>"), (0, u "()V"), (3, .class_ 11), (0, u "java/util/ImmutableCollections$List12"), (0, .class_ 13), (0, u "java/util/ImmutableCollections$ListN"), (3, u "Z"), (29, .class_ 49), (1, u "java/util/ImmutableCollections"), (0, u "$assertionsDisabled"), (5, u "[Ljava/lang/Object;"), (5, u "EMPTY_LIST"), (0, u "Ljava/util/ImmutableCollections$ListN;"), (8, u "EMPTY_LIST_NULLS"), (22, u "SALT32L"), (0, u "J"), (2, u "REVERSE"), (6, u "archivedObjects"), (2, u "EMPTY"), (0, u "Ljava/lang/Object;"), (0, .class_ 112), (0, u "java/util/ImmutableCollections$SetN"), (5, u "EMPTY_SET"), (0, u "Ljava/util/ImmutableCollections$SetN;"), (0, .class_ 121), (0, u "java/util/ImmutableCollections$MapN"), (3, u "EMPTY_MAP"), (0, u "Ljava/util/ImmutableCollections$MapN;"), (4, u "EXPAND_FACTOR"), (0, u "I"), (36, .class_ 170), (0, u "java/util/ImmutableCollections$MapN$MapNIterator"), (0, .class_ 172), (0, u "java/util/ImmutableCollections$MapN$1"), (0, .class_ 174), (0, u "java/util/ImmutableCollections$Map1"), (0, .class_ 176), (0, u "java/util/ImmutableCollections$AbstractImmutableMap"), (0, .class_ 178), (0, u "java/util/ImmutableCollections$SetN$SetNIterator"), (0, .class_ 180), (0, u "java/util/ImmutableCollections$Set12"), (0, .class_ 182), (0, u "java/util/ImmutableCollections$Set12$1"), (0, .class_ 184), (0, u "java/util/ImmutableCollections$AbstractImmutableSet"), (0, .class_ 186), (0, u "java/util/ImmutableCollections$SubList"), (0, .class_ 188), (0, u "java/util/ImmutableCollections$ListItr"), (0, .class_ 190), (0, u "java/util/ImmutableCollections$AbstractImmutableList"), (0, .class_ 192), (0, u "java/util/ImmutableCollections$AbstractImmutableCollection"), (0, .class_ 194), (0, u "java/util/ImmutableCollections$Access"), (0, .class_ 196), (0, u "java/util/ImmutableCollections$Access$1")] 16

def k18m0 : Method := { name := "<init>", desc := "()V", sig := { parameters := [], returnType := none }, accessFlags := 2, code := none }
/-- java/util/ImmutableCollections -/
def k18 : Class := { plain "java/util/ImmutableCollections" (some 0) with
  accessFlags := 32
  interfaces := #[]
  cf := some (fileOf pool18 47 #[.nestMembers #[120, 169, 171, 173, 175, 111, 177, 179, 181, 183, 12, 10, 185, 187, 189, 191, 193, 195]] #[{ accessFlags := 2, nameIndex := 5, descriptorIndex := 6, attributes := #[] }] 32 2 #[] #[{ accessFlags := 26, nameIndex := 95, descriptorIndex := 96, attributes := #[] }, { accessFlags := 26, nameIndex := 99, descriptorIndex := 17, attributes := #[] }, { accessFlags := 10, nameIndex := 106, descriptorIndex := 56, attributes := #[] }, { accessFlags := 26, nameIndex := 109, descriptorIndex := 110, attributes := #[] }, { accessFlags := 24, nameIndex := 62, descriptorIndex := 63, attributes := #[] }, { accessFlags := 24, nameIndex := 72, descriptorIndex := 63, attributes := #[] }, { accessFlags := 24, nameIndex := 118, descriptorIndex := 119, attributes := #[] }, { accessFlags := 24, nameIndex := 125, descriptorIndex := 126, attributes := #[] }, { accessFlags := 24, nameIndex := 131, descriptorIndex := 132, attributes := #[] }, { accessFlags := 4120, nameIndex := 50, descriptorIndex := 17, attributes := #[] }])
  fields := #[{ name := "SALT32L", type := .long, accessFlags := 26, slot := 0, constantValue := 0 }, { name := "REVERSE", type := .boolean, accessFlags := 26, slot := 1, constantValue := 0 }, { name := "archivedObjects", type := (.array (.object "java/lang/Object")), accessFlags := 10, slot := 2, constantValue := 0 }, { name := "EMPTY", type := (.object "java/lang/Object"), accessFlags := 26, slot := 3, constantValue := 0 }, { name := "EMPTY_LIST", type := (.object "java/util/ImmutableCollections$ListN"), accessFlags := 24, slot := 4, constantValue := 0 }, { name := "EMPTY_LIST_NULLS", type := (.object "java/util/ImmutableCollections$ListN"), accessFlags := 24, slot := 5, constantValue := 0 }, { name := "EMPTY_SET", type := (.object "java/util/ImmutableCollections$SetN"), accessFlags := 24, slot := 6, constantValue := 0 }, { name := "EMPTY_MAP", type := (.object "java/util/ImmutableCollections$MapN"), accessFlags := 24, slot := 7, constantValue := 0 }, { name := "EXPAND_FACTOR", type := .int, accessFlags := 24, slot := 8, constantValue := 0 }, { name := "$assertionsDisabled", type := .boolean, accessFlags := 4120, slot := 9, constantValue := 0 }]
  methods := #[k18m0]
  instanceTypes := #[]
  staticTypes := #[.long, .boolean, (.array (.object "java/lang/Object")), (.object "java/lang/Object"), (.object "java/util/ImmutableCollections$ListN"), (.object "java/util/ImmutableCollections$ListN"), (.object "java/util/ImmutableCollections$SetN"), (.object "java/util/ImmutableCollections$MapN"), .int, .boolean]
  resolved := Array.replicate 213 none
  statics := some 2 }

def pool19 : Array CpInfo := pool [(2, .class_ 4), (1, u "java/lang/Object"), (0, u "<init>"), (0, u "()V"), (1, .class_ 10), (1, u "java/util/AbstractCollection"), (66, .class_ 78), (0, u "java/util/Collection")] 81

def k19m0 : Method := { name := "<init>", desc := "()V", sig := { parameters := [], returnType := none }, accessFlags := 4, code := none }
/-- java/util/AbstractCollection -/
def k19 : Class := { plain "java/util/AbstractCollection" (some 0) with
  accessFlags := 1057
  interfaces := #[15]
  cf := some (fileOf pool19 8 #[] #[{ accessFlags := 4, nameIndex := 5, descriptorIndex := 6, attributes := #[] }] 1057 2 #[77] #[])
  fields := #[]
  methods := #[k19m0]
  instanceTypes := #[]
  staticTypes := #[]
  resolved := Array.replicate 160 none
  statics := none }

def pool20 : Array CpInfo := pool [(2, .class_ 4), (1, u "java/util/AbstractCollection"), (0, u "<init>"), (0, u "()V"), (1, .class_ 10), (1, u "java/util/ImmutableCollections"), (2, .class_ 14), (0, u "java/util/ImmutableCollections$AbstractImmutableCollection")] 41

def k20m0 : Method := { name := "<init>", desc := "()V", sig := { parameters := [], returnType := none }, accessFlags := 0, code := none }
/-- java/util/ImmutableCollections$AbstractImmutableCollection -/
def k20 : Class := { plain "java/util/ImmutableCollections$AbstractImmutableCollection" (some 19) with
  accessFlags := 1056
  interfaces := #[]
  cf := some (fileOf pool20 13 #[.nestHost 8] #[{ accessFlags := 0, nameIndex := 5, descriptorIndex := 6, attributes := #[] }] 1056 2 #[] #[])
  fields := #[]
  methods := #[k20m0]
  instanceTypes := #[]
  staticTypes := #[]
  resolved := Array.replicate 56 none
  statics := none }

def pool21 : Array CpInfo := pool [(1, .class_ 2), (0, u "java/util/RandomAccess"), (0, .class_ 4), (0, u "java/lang/Object")] 2

/-- java/util/RandomAccess -/
def k21 : Class := { plain "java/util/RandomAccess" (some 0) with
  accessFlags := 1537
  interfaces := #[]
  cf := some (fileOf pool21 1 #[] #[] 1537 3 #[] #[])
  fields := #[]
  methods := #[]
  instanceTypes := #[]
  staticTypes := #[]
  resolved := Array.replicate 7 none
  statics := none }

def pool22 : Array CpInfo := pool [(2, .class_ 4), (1, u "java/util/ImmutableCollections$AbstractImmutableCollection"), (0, u "<init>"), (0, u "()V"), (1, .class_ 10), (1, u "java/util/ImmutableCollections"), (3, .class_ 16), (1, u "java/util/ImmutableCollections$AbstractImmutableList"), (60, .class_ 78), (0, u "java/util/List"), (45, .class_ 125), (0, u "java/util/RandomAccess")] 70

def k22m0 : Method := { name := "<init>", desc := "()V", sig := { parameters := [], returnType := none }, accessFlags := 0, code := none }
/-- java/util/ImmutableCollections$AbstractImmutableList -/
def k22 : Class := { plain "java/util/ImmutableCollections$AbstractImmutableList" (some 20) with
  accessFlags := 1056
  interfaces := #[17, 21]
  cf := some (fileOf pool22 14 #[.nestHost 8] #[{ accessFlags := 0, nameIndex := 5, descriptorIndex := 6, attributes := #[] }] 1056 2 #[77, 124] #[])
  fields := #[]
  methods := #[k22m0]
  instanceTypes := #[]
  staticTypes := #[]
  resolved := Array.replicate 196 none
  statics := none }

def pool23 : Array CpInfo := pool [(2, .class_ 4), (1, u "java/util/ImmutableCollections$AbstractImmutableList"), (3, .class_ 10), (1, u "java/util/ImmutableCollections$ListN"), (0, u "elements"), (0, u "[Ljava/lang/Object;"), (2, u "allowNulls"), (0, u "Z"), (42, .class_ 60), (0, u "java/io/Serializable"), (53, .class_ 115), (0, u "java/util/ImmutableCollections")] 3

/-- java/util/ImmutableCollections$ListN -/
def k23 : Class := { plain "java/util/ImmutableCollections$ListN" (some 22) with
  accessFlags := 48
  interfaces := #[4]
  cf := some (fileOf pool23 8 #[.nestHost 114] #[] 48 2 #[59] #[{ accessFlags := 18, nameIndex := 11, descriptorIndex := 12, attributes := #[] }, { accessFlags := 18, nameIndex := 15, descriptorIndex := 16, attributes := #[] }])
  fields := #[{ name := "elements", type := (.array (.object "java/lang/Object")), accessFlags := 18, slot := 0, constantValue := 0 }, { name := "allowNulls", type := .boolean, accessFlags := 18, slot := 1, constantValue := 0 }]
  methods := #[]
  instanceTypes := #[(.array (.object "java/lang/Object")), .boolean]
  staticTypes := #[]
  resolved := Array.replicate 119 none
  statics := none }

def pool24 : Array CpInfo := pool [(1, u "java/lang/Cloneable"), (0, .class_ 1), (0, u "java/lang/Object"), (0, .class_ 3)] 3

/-- java/lang/Cloneable -/
def k24 : Class := { plain "java/lang/Cloneable" (some 0) with
  accessFlags := 1537
  interfaces := #[]
  cf := some (fileOf pool24 2 #[] #[] 1537 4 #[] #[])
  fields := #[]
  methods := #[]
  instanceTypes := #[]
  staticTypes := #[]
  resolved := Array.replicate 8 none
  statics := none }

/-- the primitive byte -/
def k25 : Class := { plain "byte" none with kind := .primitive 'B', accessFlags := 0x411 }
/-- [B -/
def k26 : Class := { plain "[B" (some 0) with kind := .array 25 .byte, interfaces := #[24, 4], accessFlags := 1041 }

/-- the primitive int -/
def k27 : Class := { plain "int" none with kind := .primitive 'I', accessFlags := 0x411 }
/-- [I -/
def k28 : Class := { plain "[I" (some 0) with kind := .array 27 .int, interfaces := #[24, 4], accessFlags := 1041 }

/-- [Ljava/lang/Object; -/
def k29 : Class := { plain "[Ljava/lang/Object;" (some 0) with kind := .array 0 (.object "java/lang/Object"), interfaces := #[24, 4], accessFlags := 1041 }

def heap : Heap := #[{ cls := 6, slots := #[.ref 5, .ref 12, .ref 11, .ref 7, .ref 10, .ref 8, .ref 9, .null], vm := .statics 6 },
  { cls := 13, slots := #[.ref 6, .null, .null, .null, .null, .null], vm := .statics 13 },
  { cls := 18, slots := #[.long 0, .int 0, .null, .null, .ref 4, .null, .null, .null, .int 0, .int 0], vm := .statics 18 },
  { cls := 29, slots := #[], vm := .none },
  { cls := 23, slots := #[.ref 3, .int 0], vm := .none },
  { cls := 6, slots := #[.null, .int 0, .int 0], vm := .none },
  { cls := 13, slots := #[.null, .int 0, .int 0], vm := .none },
  { cls := 6, slots := #[.null, .int 0, .int 0], vm := .none },
  { cls := 6, slots := #[.null, .int 0, .int 0], vm := .none },
  { cls := 6, slots := #[.null, .int 0, .int 0], vm := .none },
  { cls := 6, slots := #[.null, .int 0, .int 0], vm := .none },
  { cls := 6, slots := #[.null, .int 0, .int 0], vm := .none },
  { cls := 6, slots := #[.null, .int 0, .int 0], vm := .none }]
def classes : Array Class := #[k0, k1, k2, k3, k4, k5, k6, k7, k8, k9, k10, k11, k12, k13, k14, k15, k16, k17, k18, k19, k20, k21, k22, k23, k24, k25, k26, k27, k28, k29]
def interned : List (Array UInt16 × Addr) := []
def slotsUsed : Nat := 50
def theMethod : MethodId := ⟨1, 1⟩
def args0 : Array Value := #[.int 5]
def aboutOver (below : List Frame) : State where
  vm := { classes := classes, interned := interned.toArray }
  heap := heap
  slotsUsed := slotsUsed
  threads := #[{ frames := .invoking theMethod args0 :: below }]
def below0 : List Frame := [.native { method := ⟨0, 0⟩, args := #[] }]
def about1 : State := aboutOver below0
def p0 : Program := .bare "" "" ""
def e0 : Env := launch0.env 0 0 0
theorem w_frames : about1.frames = Frame.invoking theMethod args0 :: below0 := rfl
set_option maxRecDepth 65536 in
theorem w_args : argsFit about1.vm theMethod args0 = true := by decide +kernel
set_option maxRecDepth 65536 in
theorem w_heap : heapFits about1 = true := by decide +kernel
set_option maxRecDepth 65536 in
theorem w_runnable : about1.curStatus? = some .runnable := by decide +kernel
set_option maxRecDepth 65536 in
theorem w_alone : about1.alone = true := by decide +kernel
set_option maxRecDepth 65536 in
theorem w_named : about1.methodNamed? x = some theMethod := by decide +kernel
set_option maxRecDepth 65536 in
theorem w_hears : about1.hears theMethod below0 = true := by decide +kernel
set_option maxRecDepth 65536 in
theorem w_ripe : about1.ripe theMethod args0 below0 = true := by decide +kernel
theorem w_running : about1.status = .running := rfl
set_option maxRecDepth 65536 in
theorem w_room : about1.hasRoom e0.platform room_1 = true :=
  launch0.hasRoom_least _ room_1 (by decide +kernel) (by decide +kernel) (by decide +kernel) (by decide +kernel) (by decide +kernel) (by decide +kernel)
theorem allAtoms_all (ts : List Jvm.Cond) (a : Array Jvm.Value) (st : Jvm.State) : (allAtoms ts).before a st = ts.all (fun c => c.before a st) := by
  induction ts with
  | nil => rfl
  | cons c t ih =>
    show (Jvm.Cond.and c (allAtoms t)).before a st = _
    rw [Jvm.Cond.before_and, ih, List.all_cons]
def words1 : List Jvm.Cond := Jvm.Cond.code x code maxLocals ret :: tables_1
/-- a 'code' word, met by the world's own term for the bytes: nothing is compared byte by byte -/
theorem code_word {y : MethodName} {bytes : ByteArray} {mx : Nat} {rt : Option FieldType} {a : Array Value} {s : State} {m : MethodId} {meth : Method} {c : Code} (h1 : s.methodNamed? y = some m) (h2 : s.vm.method? m = some meth) (h3 : meth.code = some c) (h4 : c.code = bytes)
    (h5 : (c.maxLocals == mx && c.exceptionTable.isEmpty && decide (c.maxStack ≤ mostOperands) && decide (meth.sig.returnType = rt) && !meth.locks && decide (parseMethodDescriptor y.desc = some meth.sig)) = true) : (Jvm.Cond.code y bytes mx rt).before a s = true := by
  simp only [Bool.and_eq_true, beq_iff_eq, Bool.not_eq_true', decide_eq_true_eq] at h5
  obtain ⟨⟨⟨⟨⟨g1, g2⟩, g3⟩, g4⟩, g5⟩, g6⟩ := h5
  simp [Cond.before, Cond.holds, Cond.value, h1, h2, h3, h4, g1, g2, g3, g4, g5, g6]
def isCode : Jvm.Cond → Bool
  | .code _ _ _ _ => true
  | _ => false
theorem all_split {L : List Jvm.Cond} {P : Jvm.Cond → Bool} (h1 : L.all (fun c => isCode c || P c) = true) (h2 : ∀ c ∈ L.filter isCode, P c = true) : L.all P = true := by
  refine List.all_eq_true.mpr fun c hc => ?_
  have h := List.all_eq_true.mp h1 c hc
  rcases Bool.eq_false_or_eq_true (isCode c) with hi | hi
  · exact h2 c (List.mem_filter.mpr ⟨hc, hi⟩)
  · simpa [hi] using h
set_option maxRecDepth 65536 in
theorem w_c0 : (Jvm.Cond.code x code maxLocals ret).before args0 about1 = true := code_word (m := ⟨1, 1⟩) (meth := k1m1) (c := k1c1) (by decide +kernel) rfl rfl rfl (by decide +kernel)
set_option maxRecDepth 65536 in
theorem w_c1 : (Jvm.Cond.code ({ cls := "com/example/clear_tx/cleartx/TransactionDefinitionOfPinLaw", name := "pick", desc := "(I)Lcom/example/clear_tx/cleartx/Propagation;" } : Jvm.MethodName) method_3_code (1 : Nat) (Option.some (Jvm.ClassFile.FieldType.object "com/example/clear_tx/cleartx/Propagation"))).before args0 about1 = true := code_word (m := ⟨1, 2⟩) (meth := k1m2) (c := k1c2) (by decide +kernel) rfl rfl rfl (by decide +kernel)
set_option maxRecDepth 65536 in
theorem w_c2 : (Jvm.Cond.code ({ cls := "com/example/clear_tx/cleartx/TransactionDefinition", name := "of", desc := "(Lcom/example/clear_tx/cleartx/Propagation;)Lcom/example/clear_tx/cleartx/TransactionDefinition;" } : Jvm.MethodName) prog_21_method_2_code (2 : Nat) (Option.some (Jvm.ClassFile.FieldType.object "com/example/clear_tx/cleartx/TransactionDefinition"))).before args0 about1 = true := code_word (m := ⟨7, 1⟩) (meth := k7m1) (c := k7c1) (by decide +kernel) rfl rfl rfl (by decide +kernel)
set_option maxRecDepth 65536 in
theorem w_c3 : (Jvm.Cond.code ({ cls := "java/util/Objects", name := "requireNonNull", desc := "(Ljava/lang/Object;Ljava/lang/String;)Ljava/lang/Object;" } : Jvm.MethodName) jdk_31_method_11_code (2 : Nat) (Option.some (Jvm.ClassFile.FieldType.object "java/lang/Object"))).before args0 about1 = true := code_word (m := ⟨11, 1⟩) (meth := k11m1) (c := k11c1) (by decide +kernel) rfl rfl rfl (by decide +kernel)
set_option maxRecDepth 65536 in
theorem w_c4 : (Jvm.Cond.code ({ cls := "com/example/clear_tx/cleartx/TransactionDefinition$Settings", name := "<init>", desc := "()V" } : Jvm.MethodName) prog_22_method_1_code (1 : Nat) (Option.none : Option Jvm.ClassFile.FieldType)).before args0 about1 = true := code_word (m := ⟨12, 0⟩) (meth := k12m0) (c := k12c0) (by decide +kernel) rfl rfl rfl (by decide +kernel)
set_option maxRecDepth 65536 in
theorem w_c5 : (Jvm.Cond.code ({ cls := "java/lang/Object", name := "<init>", desc := "()V" } : Jvm.MethodName) object_method_1_code (1 : Nat) (Option.none : Option Jvm.ClassFile.FieldType)).before args0 about1 = true := code_word (m := ⟨0, 0⟩) (meth := k0m0) (c := k0c0) (by decide +kernel) rfl rfl rfl (by decide +kernel)
set_option maxRecDepth 65536 in
theorem w_c6 : (Jvm.Cond.code ({ cls := "java/util/List", name := "of", desc := "()Ljava/util/List;" } : Jvm.MethodName) jdk_40_method_36_code (0 : Nat) (Option.some (Jvm.ClassFile.FieldType.object "java/util/List"))).before args0 about1 = true := code_word (m := ⟨17, 0⟩) (meth := k17m0) (c := k17c0) (by decide +kernel) rfl rfl rfl (by decide +kernel)
set_option maxRecDepth 65536 in
theorem w_c7 : (Jvm.Cond.code ({ cls := "com/example/clear_tx/cleartx/TransactionDefinition", name := "<init>", desc := "(Lcom/example/clear_tx/cleartx/TransactionDefinition$Settings;)V" } : Jvm.MethodName) prog_21_method_1_code (2 : Nat) (Option.none : Option Jvm.ClassFile.FieldType)).before args0 about1 = true := code_word (m := ⟨7, 0⟩) (meth := k7m0) (c := k7c0) (by decide +kernel) rfl rfl rfl (by decide +kernel)
set_option maxRecDepth 65536 in
theorem w_c8 : (Jvm.Cond.code ({ cls := "com/example/clear_tx/cleartx/TransactionDefinition", name := "propagation", desc := "()Lcom/example/clear_tx/cleartx/Propagation;" } : Jvm.MethodName) prog_21_method_4_code (1 : Nat) (Option.some (Jvm.ClassFile.FieldType.object "com/example/clear_tx/cleartx/Propagation"))).before args0 about1 = true := code_word (m := ⟨7, 2⟩) (meth := k7m2) (c := k7c2) (by decide +kernel) rfl rfl rfl (by decide +kernel)
set_option maxRecDepth 65536 in
theorem w_c9 : (Jvm.Cond.code ({ cls := "com/example/clear_tx/cleartx/TransactionDefinition", name := "isolation", desc := "()Lcom/example/clear_tx/cleartx/Isolation;" } : Jvm.MethodName) prog_21_method_5_code (1 : Nat) (Option.some (Jvm.ClassFile.FieldType.object "com/example/clear_tx/cleartx/Isolation"))).before args0 about1 = true := code_word (m := ⟨7, 3⟩) (meth := k7m3) (c := k7c3) (by decide +kernel) rfl rfl rfl (by decide +kernel)
set_option maxRecDepth 65536 in
theorem w_c10 : (Jvm.Cond.code ({ cls := "com/example/clear_tx/cleartx/TransactionDefinition", name := "isReadOnly", desc := "()Z" } : Jvm.MethodName) prog_21_method_6_code (1 : Nat) (Option.some Jvm.ClassFile.FieldType.boolean)).before args0 about1 = true := code_word (m := ⟨7, 4⟩) (meth := k7m4) (c := k7c4) (by decide +kernel) rfl rfl rfl (by decide +kernel)
set_option maxRecDepth 65536 in
theorem w_c11 : (Jvm.Cond.code ({ cls := "com/example/clear_tx/cleartx/TransactionDefinition", name := "timeout", desc := "()I" } : Jvm.MethodName) prog_21_method_7_code (1 : Nat) (Option.some Jvm.ClassFile.FieldType.int)).before args0 about1 = true := code_word (m := ⟨7, 5⟩) (meth := k7m5) (c := k7c5) (by decide +kernel) rfl rfl rfl (by decide +kernel)
set_option maxRecDepth 65536 in
theorem w_c12 : (Jvm.Cond.code ({ cls := "com/example/clear_tx/cleartx/TransactionDefinition", name := "name", desc := "()Ljava/lang/String;" } : Jvm.MethodName) prog_21_method_8_code (1 : Nat) (Option.some (Jvm.ClassFile.FieldType.object "java/lang/String"))).before args0 about1 = true := code_word (m := ⟨7, 6⟩) (meth := k7m6) (c := k7c6) (by decide +kernel) rfl rfl rfl (by decide +kernel)
set_option maxRecDepth 65536 in
theorem w_c13 : (Jvm.Cond.code ({ cls := "com/example/clear_tx/cleartx/TransactionDefinition", name := "declaredOn", desc := "()Ljava/lang/String;" } : Jvm.MethodName) prog_21_method_9_code (1 : Nat) (Option.some (Jvm.ClassFile.FieldType.object "java/lang/String"))).before args0 about1 = true := code_word (m := ⟨7, 7⟩) (meth := k7m7) (c := k7c7) (by decide +kernel) rfl rfl rfl (by decide +kernel)
def codes1 : List Jvm.Cond := [Jvm.Cond.code x code maxLocals ret, Jvm.Cond.code ({ cls := "com/example/clear_tx/cleartx/TransactionDefinitionOfPinLaw", name := "pick", desc := "(I)Lcom/example/clear_tx/cleartx/Propagation;" } : Jvm.MethodName) method_3_code (1 : Nat) (Option.some (Jvm.ClassFile.FieldType.object "com/example/clear_tx/cleartx/Propagation")), Jvm.Cond.code ({ cls := "com/example/clear_tx/cleartx/TransactionDefinition", name := "of", desc := "(Lcom/example/clear_tx/cleartx/Propagation;)Lcom/example/clear_tx/cleartx/TransactionDefinition;" } : Jvm.MethodName) prog_21_method_2_code (2 : Nat) (Option.some (Jvm.ClassFile.FieldType.object "com/example/clear_tx/cleartx/TransactionDefinition")), Jvm.Cond.code ({ cls := "java/util/Objects", name := "requireNonNull", desc := "(Ljava/lang/Object;Ljava/lang/String;)Ljava/lang/Object;" } : Jvm.MethodName) jdk_31_method_11_code (2 : Nat) (Option.some (Jvm.ClassFile.FieldType.object "java/lang/Object")), Jvm.Cond.code ({ cls := "com/example/clear_tx/cleartx/TransactionDefinition$Settings", name := "<init>", desc := "()V" } : Jvm.MethodName) prog_22_method_1_code (1 : Nat) (Option.none : Option Jvm.ClassFile.FieldType), Jvm.Cond.code ({ cls := "java/lang/Object", name := "<init>", desc := "()V" } : Jvm.MethodName) object_method_1_code (1 : Nat) (Option.none : Option Jvm.ClassFile.FieldType), Jvm.Cond.code ({ cls := "java/util/List", name := "of", desc := "()Ljava/util/List;" } : Jvm.MethodName) jdk_40_method_36_code (0 : Nat) (Option.some (Jvm.ClassFile.FieldType.object "java/util/List")), Jvm.Cond.code ({ cls := "com/example/clear_tx/cleartx/TransactionDefinition", name := "<init>", desc := "(Lcom/example/clear_tx/cleartx/TransactionDefinition$Settings;)V" } : Jvm.MethodName) prog_21_method_1_code (2 : Nat) (Option.none : Option Jvm.ClassFile.FieldType), Jvm.Cond.code ({ cls := "com/example/clear_tx/cleartx/TransactionDefinition", name := "propagation", desc := "()Lcom/example/clear_tx/cleartx/Propagation;" } : Jvm.MethodName) prog_21_method_4_code (1 : Nat) (Option.some (Jvm.ClassFile.FieldType.object "com/example/clear_tx/cleartx/Propagation")), Jvm.Cond.code ({ cls := "com/example/clear_tx/cleartx/TransactionDefinition", name := "isolation", desc := "()Lcom/example/clear_tx/cleartx/Isolation;" } : Jvm.MethodName) prog_21_method_5_code (1 : Nat) (Option.some (Jvm.ClassFile.FieldType.object "com/example/clear_tx/cleartx/Isolation")), Jvm.Cond.code ({ cls := "com/example/clear_tx/cleartx/TransactionDefinition", name := "isReadOnly", desc := "()Z" } : Jvm.MethodName) prog_21_method_6_code (1 : Nat) (Option.some Jvm.ClassFile.FieldType.boolean), Jvm.Cond.code ({ cls := "com/example/clear_tx/cleartx/TransactionDefinition", name := "timeout", desc := "()I" } : Jvm.MethodName) prog_21_method_7_code (1 : Nat) (Option.some Jvm.ClassFile.FieldType.int), Jvm.Cond.code ({ cls := "com/example/clear_tx/cleartx/TransactionDefinition", name := "name", desc := "()Ljava/lang/String;" } : Jvm.MethodName) prog_21_method_8_code (1 : Nat) (Option.some (Jvm.ClassFile.FieldType.object "java/lang/String")), Jvm.Cond.code ({ cls := "com/example/clear_tx/cleartx/TransactionDefinition", name := "declaredOn", desc := "()Ljava/lang/String;" } : Jvm.MethodName) prog_21_method_9_code (1 : Nat) (Option.some (Jvm.ClassFile.FieldType.object "java/lang/String"))]
set_option maxRecDepth 65536 in
theorem codes_eq : words1.filter isCode = codes1 := rfl
theorem w_codes : ∀ c ∈ words1.filter isCode, c.before args0 about1 = true := by
  rw [codes_eq]
  intro c hc
  simp only [codes1, List.mem_cons, List.not_mem_nil, or_false] at hc
  rcases hc with rfl | rfl | rfl | rfl | rfl | rfl | rfl | rfl | rfl | rfl | rfl | rfl | rfl | rfl
  · exact w_c0
  · exact w_c1
  · exact w_c2
  · exact w_c3
  · exact w_c4
  · exact w_c5
  · exact w_c6
  · exact w_c7
  · exact w_c8
  · exact w_c9
  · exact w_c10
  · exact w_c11
  · exact w_c12
  · exact w_c13
set_option maxRecDepth 65536 in
theorem w_t1 : (words1.take 24).all (fun c => isCode c || c.before args0 about1) = true := by decide +kernel
set_option maxRecDepth 65536 in
theorem w_t2 : ((words1.drop 24).take 24).all (fun c => isCode c || c.before args0 about1) = true := by decide +kernel
set_option maxRecDepth 65536 in
theorem w_t3 : (((words1.drop 24).drop 24).take 24).all (fun c => isCode c || c.before args0 about1) = true := by decide +kernel
set_option maxRecDepth 65536 in
theorem w_t4 : ((((words1.drop 24).drop 24).drop 24).take 24).all (fun c => isCode c || c.before args0 about1) = true := by decide +kernel
set_option maxRecDepth 65536 in
theorem w_t5 : ((((words1.drop 24).drop 24).drop 24).drop 24).all (fun c => isCode c || c.before args0 about1) = true := by decide +kernel
theorem w_tables : (allAtoms (Jvm.Cond.code x code maxLocals ret :: tables_1)).before args0 about1 = true := by
  rw [allAtoms_all]
  show words1.all (fun c => c.before args0 about1) = true
  refine all_split ?_ w_codes
  rw [← List.take_append_drop 24 words1, List.all_append, w_t1, ← List.take_append_drop 24 (words1.drop 24), List.all_append, w_t2, ← List.take_append_drop 24 ((words1.drop 24).drop 24), List.all_append, w_t3, ← List.take_append_drop 24 (((words1.drop 24).drop 24).drop 24), List.all_append, w_t4, w_t5]
  rfl
set_option maxRecDepth 65536 in
theorem w_rest : rest_1_c.before args0 about1 = true := by decide +kernel
set_option maxRecDepth 65536 in
theorem w_case : (Jvm.Cond.and given_1 narrow_1).before args0 about1 = true := by decide +kernel
theorem w_applies : (headSpec (Jvm.Cond.code x code maxLocals ret :: tables_1) room_1).applies x e0.platform about1 = true :=
  (Spec.applies_iff w_frames).mpr ⟨w_running, w_runnable, w_alone, w_named, w_hears, w_ripe, w_room, w_tables⟩
theorem atStart : AtStart classFile x code maxLocals ret World_1 tables_1 room_1 Calls_1 rest_1 Pre_1 launch0 p0 e0 about1 theMethod args0 below0 :=
  ⟨lists_1, trivial, launch0.admits_env _ _ _, launch0.least_env, fairChoices_fair.cas, fairChoices_fair.clock, w_frames, w_args, w_heap, w_applies, trivial, w_rest, w_case⟩
end start1
theorem witness_1 : WitnessClaimed_1 := ⟨start1.p0, start1.e0, start1.about1, start1.theMethod, start1.args0, start1.below0, start1.atStart⟩
end Jvm.Pilot.@@N@@
