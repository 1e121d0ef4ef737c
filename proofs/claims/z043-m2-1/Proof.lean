import JvmDerived
import JvmDerived.Pilot.@@N@@Statement
import JvmDerived.Pilot.@@N@@Code
set_option linter.unusedVariables false
set_option linter.unusedSimpArgs false
@@BLOCK:NumsL.lean.txt@@
namespace Jvm.RoadKit
open Sem ClassFile Op Lib Jvm.Stand Jvm.Free Jvm.LawKit
section New
variable {p : Program} {l : Launch} {e : Env} {R : Room} {s : State} {m : MethodId} {args : Array Value} {below : List Frame} {meth : Method} {c : Code} {T : State} {locs : List Loc} {cells slots : Nat}
theorem retI (X : Stand p l e R s m args below meth c T locs cells slots) (hx : p.tables.exec = Jvm.exec) {pc : Nat} {Ls : Array Slot} {z : Int32} {rest : List Value} (hret : meth.sig.returnType = some .int) (hd : decode c.code pc = .ok (.ireturn, 1)) {fs : List Frame}
    (hl : ∀ (f : JFrame) (acts : List Action), f.method = m → f.locked = none → f.entered = [] → (doReturn e (T.setTop f) acts (some (.int z))).1 = T.setFrames fs) : Steps p.tables e below (T.setTop (mkF m pc Ls (.int z :: rest))) (T.setFrames fs) := by
  have hm' : T.vm.method? m = some meth := X.method'
  have hn : narrow .int (.int z) = .int z := rfl
  show Steps p.tables e below (T.setTop { method := m, pc := pc, locals := Ls, stack := _ :: rest, locked := none }) _
  jvm_step X.here [X.here.top, hx, hd, hm', hret, hn]
  first | (intro acts; rw [hl _ acts rfl rfl rfl]) | rw [hl _ _ rfl rfl rfl]
  exact Steps.refl _
end New
end Jvm.RoadKit
namespace Jvm.Pilot.@@N@@
open Jvm Jvm.ClassFile Sem Op Lib Jvm.Free Jvm.Stand Jvm.LawKit Jvm.RoadKit Bundle Jvm.Pilot.@@N@@.Jvm.D
section Own
variable {p : Program} {l : Launch} {e : Env} {R : Room} {s : State} {m : MethodId} {args : Array Value} {below : List Frame} {meth : Method} {c : Code} {T T' : State} {locs : List Loc} {cells slots kc ks : Nat} {Q : Option Value → Heap → List Loc → Prop} {g g' : JFrame}
/-- From the frame g over T the body comes to its return, with what Q says of the value, the heap and the places written. -/
def own_Ends (p : Program) (e : Env) (below : List Frame) (s : State) (Q : Option Value → Heap → List Loc → Prop) (kc ks : Nat) (T : State) (g : JFrame) : Prop :=
  ∃ s₂ o, Steps p.tables e below (T.setTop g) s₂ ∧ s₂.status = .running ∧ Ended s₂ below o ∧ ∃ v L, o = .returned v ∧ Q v s₂.heap L ∧ FrameEnd s o s₂ L kc ks
theorem own_st (h : ∀ target, Steps p.tables e below (T'.setTop g') target → Steps p.tables e below (T.setTop g) target) (k : own_Ends p e below s Q kc ks T' g') : own_Ends p e below s Q kc ks T g := by
  obtain ⟨s₂, o, h1, r⟩ := k
  exact ⟨s₂, o, h _ h1, r⟩
theorem own_tr (h : Steps p.tables e below (T.setTop g) (T'.setTop g')) (k : own_Ends p e below s Q kc ks T' g') : own_Ends p e below s Q kc ks T g :=
  own_st (fun _ q => h.trans q) k
theorem own_retN (X : Stand p l e R s m args below meth c T locs cells slots) (hx : p.tables.exec = Jvm.exec) {pc : Nat} {Ls : Array Slot} {z w : Int32} {t : FieldType} {rest : List Value} (hret : meth.sig.returnType = some t) (ht : t = .boolean ∨ t = .byte ∨ t = .char ∨ t = .short)
    (hd : decode c.code pc = .ok (.ireturn, 1)) (hlk : meth.locks = false) (hc : cells ≤ kc) (hs : slots ≤ ks) (hw : nar t z = w) (hQ : Q (some (.int w)) T.heap locs) : own_Ends p e below s Q kc ks T (mkF m pc Ls (.int z :: rest)) := by
  obtain ⟨fs, hr, hrun, hended, hW, hsame⟩ := X.leave (v := some (.int (nar t z))) (fun h => by rw [hret] at h; cases h) hlk
  subst hw
  exact ⟨_, _, retN X hx hret ht hd hr, hrun, hended, _, _, rfl, hQ, ⟨_, rfl⟩, hW, hsame.mono hc hs⟩
theorem own_retI (X : Stand p l e R s m args below meth c T locs cells slots) (hx : p.tables.exec = Jvm.exec) {pc : Nat} {Ls : Array Slot} {z : Int32} {rest : List Value} (hret : meth.sig.returnType = some .int)
    (hd : decode c.code pc = .ok (.ireturn, 1)) (hlk : meth.locks = false) (hc : cells ≤ kc) (hs : slots ≤ ks) (hQ : Q (some (.int z)) T.heap locs) : own_Ends p e below s Q kc ks T (mkF m pc Ls (.int z :: rest)) := by
  obtain ⟨fs, hr, hrun, hended, hW, hsame⟩ := X.leave (v := some (.int z)) (fun h => by rw [hret] at h; cases h) hlk
  exact ⟨_, _, retI X hx hret hd hr, hrun, hended, _, _, rfl, hQ, ⟨_, rfl⟩, hW, hsame.mono hc hs⟩
theorem own_retA (X : Stand p l e R s m args below meth c T locs cells slots) (hx : p.tables.exec = Jvm.exec) {pc : Nat} {Ls : Array Slot} {w : Value} {t : FieldType} {rest : List Value} (hret : meth.sig.returnType = some t) (ht : t.isReference = true) (hr : w.isRef = true) (hn : narrow t w = w)
    (hd : decode c.code pc = .ok (.areturn, 1)) (hlk : meth.locks = false) (hc : cells ≤ kc) (hs : slots ≤ ks) (hQ : Q (some w) T.heap locs) : own_Ends p e below s Q kc ks T (mkF m pc Ls (w :: rest)) := by
  obtain ⟨fs, hl, hrun, hended, hW, hsame⟩ := X.leave (v := some w) (fun h => by rw [hret] at h; cases h) hlk
  exact ⟨_, _, retOut X hx hret hn (Or.inr (Or.inr (Or.inr (Or.inr ⟨rfl, ht, hr⟩)))) hd hl, hrun, hended, _, _, rfl, hQ, ⟨_, rfl⟩, hW, hsame.mono hc hs⟩
theorem own_retV (X : Stand p l e R s m args below meth c T locs cells slots) (hx : p.tables.exec = Jvm.exec) {pc : Nat} {Ls : Array Slot} (hret : meth.sig.returnType = none)
    (hd : decode c.code pc = .ok (.return_, 1)) (hlk : meth.locks = false) (hc : cells ≤ kc) (hs : slots ≤ ks) (hQ : Q none T.heap locs) : own_Ends p e below s Q kc ks T (mkF m pc Ls []) := by
  obtain ⟨fs, hr, hrun, hended, hW, hsame⟩ := X.leave (v := none) (fun _ => rfl) hlk
  exact ⟨_, _, X.returnOut hx hret hd hr, hrun, hended, _, _, rfl, hQ, ⟨_, rfl⟩, hW, hsame.mono hc hs⟩
end Own
section OwnFacts
variable {args : Array Value} {Z : State} {t t2 : Term} {x y : Addr} {C n d : String} {k : Int32}
theorem own_fldI (ev : t.eval args Z none [] Z = some (.ref x)) (h : (Cond.eq (.field t C n d) (.int k)).value args Z none Z [] = some true) : Fld Z Z.heap x C n d (.int k) := by
  obtain ⟨u, w, h1, h2, q, -⟩ := cmp_v (Or.inl h)
  cases (Term.int_eval k).symm.trans h2
  cases u <;> simp [Cond.value, h1, Term.int_eval] at h
  subst h
  exact Fld.start (by rw [← fld_at ev]; exact h1)
theorem own_fldN (ev : t.eval args Z none [] Z = some (.ref x)) (h : (Cond.eq (.field t C n d) .null).value args Z none Z [] = some true) : Fld Z Z.heap x C n d .null :=
  Fld.start (by rw [← fld_at ev]; exact null_v h)
theorem own_fldR (ev : t.eval args Z none [] Z = some (.ref x)) (ev2 : t2.eval args Z none [] Z = some (.ref y)) (h : (Cond.eq (.field t C n d) t2).value args Z none Z [] = some true) : Fld Z Z.heap x C n d (.ref y) := by
  obtain ⟨u, w, h1, h2, -, -⟩ := cmp_v (Or.inl h)
  cases ev2.symm.trans h2
  cases u <;> simp [Cond.value, h1, ev2] at h
  subst h
  exact Fld.start (by rw [← fld_at ev]; exact h1)
end OwnFacts
section OwnArr
variable {p : Program} {l : Launch} {e : Env} {R : Room} {s : State} {m : MethodId} {args : Array Value} {below : List Frame} {meth : Method} {c : Code} {T : State} {locs : List Loc} {cells slots : Nat} {Z : State} {h : Heap} {a y : Addr} {k : ClassId} {C : String} {z j : Int32} {vs : List Value}
theorem own_fill (X : Stand p l e R s m args below meth c T locs cells slots) (hx : p.tables.exec = Jvm.exec) (hZ : Z.Warmed39 s.vm) (eT : T.heap = h) (V : Arv Z h a k (.object C) z vs .null) (Ov : Ovr Z k C) (Iy : Ins Z h y C true) (i : Nat) (hj : j.toNatClampNeg = i) (hi : i < vs.length) (hjz : ¬ j < 0 ∧ j < z)
    {g : JFrame} (hg : g.method = m) {rest : List Value} (hs : g.stack = .ref y :: .int j :: .ref a :: rest) (hd : decode c.code g.pc = .ok (.aastore, 1)) :
    ∃ T' h', Stand p l e R s m args below meth c T' (locs ++ [⟨a, j.toNatClampNeg⟩]) cells slots ∧ T'.heap = h' ∧ Wr h h' a j.toNatClampNeg (.ref y) ∧ Arv Z h' a k (.object C) z (vs.set i (.ref y)) .null ∧
      ∀ target, Steps p.tables e below (T'.setTop { g with pc := g.pc + 1, stack := rest }) target → Steps p.tables e below (T.setTop g) target := by
  obtain ⟨cl, Ar, q, S, M, H, G⟩ := V
  obtain ⟨T', h', X', e', W, st⟩ := stR X hx hZ eT Ar (j := j) (inb_of S hjz) rfl (Sto.ofV Ar q Ov Iy) hg hs hd
  exact ⟨T', h', X', e', W, Arv.set Ar q S M H G rfl W i hj hi, st⟩
end OwnArr
def own_W (Z : State) (r0 r1 r2 r3 r4 r5 r6 r7 r8 r9 r10 r11 r12 r13 r14 : Addr) : Prop := Sta Z Z.heap "com/example/mimsy/mimsy/wabe/Operator" "ADD" "Lcom/example/mimsy/mimsy/wabe/Operator;" (.ref r0) ∧ Exa Z Z.heap r0 "com/example/mimsy/mimsy/wabe/Operator" ∧ Sta Z Z.heap "com/example/mimsy/mimsy/wabe/Operator" "SUBTRACT" "Lcom/example/mimsy/mimsy/wabe/Operator;" (.ref r1) ∧ Exa Z Z.heap r1 "com/example/mimsy/mimsy/wabe/Operator" ∧ Sta Z Z.heap "com/example/mimsy/mimsy/wabe/Operator" "MULTIPLY" "Lcom/example/mimsy/mimsy/wabe/Operator;" (.ref r2) ∧ Exa Z Z.heap r2 "com/example/mimsy/mimsy/wabe/Operator" ∧ Sta Z Z.heap "com/example/mimsy/mimsy/wabe/Operator" "DIVIDE" "Lcom/example/mimsy/mimsy/wabe/Operator;" (.ref r3) ∧ Exa Z Z.heap r3 "com/example/mimsy/mimsy/wabe/Operator" ∧ Sta Z Z.heap "com/example/mimsy/mimsy/wabe/Operator" "REMAINDER" "Lcom/example/mimsy/mimsy/wabe/Operator;" (.ref r4) ∧ Exa Z Z.heap r4 "com/example/mimsy/mimsy/wabe/Operator" ∧ Sta Z Z.heap "com/example/mimsy/mimsy/wabe/Operator" "AND" "Lcom/example/mimsy/mimsy/wabe/Operator;" (.ref r5) ∧ Exa Z Z.heap r5 "com/example/mimsy/mimsy/wabe/Operator" ∧ Sta Z Z.heap "com/example/mimsy/mimsy/wabe/Operator" "OR" "Lcom/example/mimsy/mimsy/wabe/Operator;" (.ref r6) ∧ Exa Z Z.heap r6 "com/example/mimsy/mimsy/wabe/Operator" ∧ Sta Z Z.heap "com/example/mimsy/mimsy/wabe/Operator" "LESS" "Lcom/example/mimsy/mimsy/wabe/Operator;" (.ref r7) ∧ Exa Z Z.heap r7 "com/example/mimsy/mimsy/wabe/Operator" ∧ Sta Z Z.heap "com/example/mimsy/mimsy/wabe/Operator" "GREATER" "Lcom/example/mimsy/mimsy/wabe/Operator;" (.ref r8) ∧ Exa Z Z.heap r8 "com/example/mimsy/mimsy/wabe/Operator" ∧ Sta Z Z.heap "com/example/mimsy/mimsy/wabe/Operator" "EQUAL" "Lcom/example/mimsy/mimsy/wabe/Operator;" (.ref r9) ∧ Exa Z Z.heap r9 "com/example/mimsy/mimsy/wabe/Operator" ∧ Sta Z Z.heap "com/example/mimsy/mimsy/wabe/Operator" "NOT_EQUAL" "Lcom/example/mimsy/mimsy/wabe/Operator;" (.ref r10) ∧ Exa Z Z.heap r10 "com/example/mimsy/mimsy/wabe/Operator" ∧ Sta Z Z.heap "com/example/mimsy/mimsy/wabe/Operator" "LESS_OR_EQUAL" "Lcom/example/mimsy/mimsy/wabe/Operator;" (.ref r11) ∧ Exa Z Z.heap r11 "com/example/mimsy/mimsy/wabe/Operator" ∧ Sta Z Z.heap "com/example/mimsy/mimsy/wabe/Operator" "GREATER_OR_EQUAL" "Lcom/example/mimsy/mimsy/wabe/Operator;" (.ref r12) ∧ Exa Z Z.heap r12 "com/example/mimsy/mimsy/wabe/Operator" ∧ Sta Z Z.heap "com/example/mimsy/mimsy/wabe/Operator" "NOT" "Lcom/example/mimsy/mimsy/wabe/Operator;" (.ref r13) ∧ Exa Z Z.heap r13 "com/example/mimsy/mimsy/wabe/Operator" ∧ Sta Z Z.heap "com/example/mimsy/mimsy/wabe/Operator" "NEGATE" "Lcom/example/mimsy/mimsy/wabe/Operator;" (.ref r14) ∧ Exa Z Z.heap r14 "com/example/mimsy/mimsy/wabe/Operator" ∧ Fld Z Z.heap r0 "com/example/mimsy/mimsy/wabe/Operator" "opcode" "I" (.int (12 : Int32)) ∧ Fld Z Z.heap r0 "java/lang/Enum" "ordinal" "I" (.int (0 : Int32)) ∧ Fld Z Z.heap r5 "java/lang/Enum" "ordinal" "I" (.int (5 : Int32)) ∧ Fld Z Z.heap r6 "java/lang/Enum" "ordinal" "I" (.int (6 : Int32)) ∧ Fld Z Z.heap r3 "com/example/mimsy/mimsy/wabe/Operator" "opcode" "I" (.int (15 : Int32)) ∧ Fld Z Z.heap r3 "java/lang/Enum" "ordinal" "I" (.int (3 : Int32)) ∧ Fld Z Z.heap r5 "com/example/mimsy/mimsy/wabe/Operator" "opcode" "I" (.int (7 : Int32)) ∧ Fld Z Z.heap r5 "com/example/mimsy/mimsy/wabe/Operator" "operands" "I" (.int (2 : Int32)) ∧ Fld Z Z.heap r13 "com/example/mimsy/mimsy/wabe/Operator" "opcode" "I" (.int (10 : Int32)) ∧ Fld Z Z.heap r13 "java/lang/Enum" "ordinal" "I" (.int (13 : Int32)) ∧ Fld Z Z.heap r6 "com/example/mimsy/mimsy/wabe/Operator" "opcode" "I" (.int (8 : Int32)) ∧ Fld Z Z.heap r6 "com/example/mimsy/mimsy/wabe/Operator" "operands" "I" (.int (2 : Int32)) ∧ Fld Z Z.heap r14 "com/example/mimsy/mimsy/wabe/Operator" "opcode" "I" (.int (11 : Int32)) ∧ Fld Z Z.heap r14 "java/lang/Enum" "ordinal" "I" (.int (14 : Int32)) ∧ Fld Z Z.heap r7 "com/example/mimsy/mimsy/wabe/Operator" "opcode" "I" (.int (17 : Int32)) ∧ Fld Z Z.heap r7 "java/lang/Enum" "ordinal" "I" (.int (7 : Int32)) ∧ Fld Z Z.heap r2 "com/example/mimsy/mimsy/wabe/Operator" "opcode" "I" (.int (14 : Int32)) ∧ Fld Z Z.heap r2 "java/lang/Enum" "ordinal" "I" (.int (2 : Int32)) ∧ Fld Z Z.heap r11 "com/example/mimsy/mimsy/wabe/Operator" "opcode" "I" (.int (21 : Int32)) ∧ Fld Z Z.heap r11 "java/lang/Enum" "ordinal" "I" (.int (11 : Int32)) ∧ Fld Z Z.heap r10 "com/example/mimsy/mimsy/wabe/Operator" "opcode" "I" (.int (20 : Int32)) ∧ Fld Z Z.heap r10 "java/lang/Enum" "ordinal" "I" (.int (10 : Int32)) ∧ Fld Z Z.heap r8 "com/example/mimsy/mimsy/wabe/Operator" "opcode" "I" (.int (18 : Int32)) ∧ Fld Z Z.heap r8 "java/lang/Enum" "ordinal" "I" (.int (8 : Int32)) ∧ Fld Z Z.heap r1 "com/example/mimsy/mimsy/wabe/Operator" "opcode" "I" (.int (13 : Int32)) ∧ Fld Z Z.heap r1 "java/lang/Enum" "ordinal" "I" (.int (1 : Int32)) ∧ Fld Z Z.heap r12 "com/example/mimsy/mimsy/wabe/Operator" "opcode" "I" (.int (22 : Int32)) ∧ Fld Z Z.heap r12 "java/lang/Enum" "ordinal" "I" (.int (12 : Int32)) ∧ Fld Z Z.heap r4 "com/example/mimsy/mimsy/wabe/Operator" "opcode" "I" (.int (16 : Int32)) ∧ Fld Z Z.heap r4 "java/lang/Enum" "ordinal" "I" (.int (4 : Int32)) ∧ Fld Z Z.heap r9 "com/example/mimsy/mimsy/wabe/Operator" "opcode" "I" (.int (19 : Int32)) ∧ Fld Z Z.heap r9 "java/lang/Enum" "ordinal" "I" (.int (9 : Int32)) ∧ Fld Z Z.heap r0 "com/example/mimsy/mimsy/wabe/Operator" "operands" "I" (.int (2 : Int32)) ∧ Fld Z Z.heap r1 "com/example/mimsy/mimsy/wabe/Operator" "operands" "I" (.int (2 : Int32)) ∧ Fld Z Z.heap r2 "com/example/mimsy/mimsy/wabe/Operator" "operands" "I" (.int (2 : Int32)) ∧ Fld Z Z.heap r3 "com/example/mimsy/mimsy/wabe/Operator" "operands" "I" (.int (2 : Int32)) ∧ Fld Z Z.heap r4 "com/example/mimsy/mimsy/wabe/Operator" "operands" "I" (.int (2 : Int32)) ∧ Fld Z Z.heap r7 "com/example/mimsy/mimsy/wabe/Operator" "operands" "I" (.int (2 : Int32)) ∧ Fld Z Z.heap r8 "com/example/mimsy/mimsy/wabe/Operator" "operands" "I" (.int (2 : Int32)) ∧ Fld Z Z.heap r9 "com/example/mimsy/mimsy/wabe/Operator" "operands" "I" (.int (2 : Int32)) ∧ Fld Z Z.heap r10 "com/example/mimsy/mimsy/wabe/Operator" "operands" "I" (.int (2 : Int32)) ∧ Fld Z Z.heap r11 "com/example/mimsy/mimsy/wabe/Operator" "operands" "I" (.int (2 : Int32)) ∧ Fld Z Z.heap r12 "com/example/mimsy/mimsy/wabe/Operator" "operands" "I" (.int (2 : Int32)) ∧ Fld Z Z.heap r13 "com/example/mimsy/mimsy/wabe/Operator" "operands" "I" (.int (1 : Int32)) ∧ Fld Z Z.heap r14 "com/example/mimsy/mimsy/wabe/Operator" "operands" "I" (.int (1 : Int32))
theorem pd_0 : parseMethodDescriptor "()Z" = some ⟨[], some .boolean⟩ := by decide +kernel
theorem own_idx (p : Int32) : (p &&& (2147483647 : Int32)) % (15 : Int32) = (0 : Int32) ∨ (p &&& (2147483647 : Int32)) % (15 : Int32) = (1 : Int32) ∨ (p &&& (2147483647 : Int32)) % (15 : Int32) = (2 : Int32) ∨ (p &&& (2147483647 : Int32)) % (15 : Int32) = (3 : Int32) ∨ (p &&& (2147483647 : Int32)) % (15 : Int32) = (4 : Int32) ∨ (p &&& (2147483647 : Int32)) % (15 : Int32) = (5 : Int32) ∨ (p &&& (2147483647 : Int32)) % (15 : Int32) = (6 : Int32) ∨ (p &&& (2147483647 : Int32)) % (15 : Int32) = (7 : Int32) ∨ (p &&& (2147483647 : Int32)) % (15 : Int32) = (8 : Int32) ∨ (p &&& (2147483647 : Int32)) % (15 : Int32) = (9 : Int32) ∨ (p &&& (2147483647 : Int32)) % (15 : Int32) = (10 : Int32) ∨ (p &&& (2147483647 : Int32)) % (15 : Int32) = (11 : Int32) ∨ (p &&& (2147483647 : Int32)) % (15 : Int32) = (12 : Int32) ∨ (p &&& (2147483647 : Int32)) % (15 : Int32) = (13 : Int32) ∨ (p &&& (2147483647 : Int32)) % (15 : Int32) = (14 : Int32) := by
  have e1 : (p &&& (2147483647 : Int32)).toInt = p.toInt % 2 ^ 31 := Jvm.Kit.i32_mask p 2147483647 (k := 31) (by decide) (by decide)
  have e2 : ((p &&& (2147483647 : Int32)) % (15 : Int32)).toInt = (p &&& (2147483647 : Int32)).toInt.tmod 15 := Int32.toInt_mod _ _
  rw [e1, Int.tmod_eq_emod_of_nonneg (by omega)] at e2
  generalize (p &&& (2147483647 : Int32)) % (15 : Int32) = x at *
  have h : x.toInt = 0 ∨ x.toInt = 1 ∨ x.toInt = 2 ∨ x.toInt = 3 ∨ x.toInt = 4 ∨ x.toInt = 5 ∨ x.toInt = 6 ∨ x.toInt = 7 ∨ x.toInt = 8 ∨ x.toInt = 9 ∨ x.toInt = 10 ∨ x.toInt = 11 ∨ x.toInt = 12 ∨ x.toInt = 13 ∨ x.toInt = 14 := by omega
  rcases h with h | h | h | h | h | h | h | h | h | h | h | h | h | h | h
  · exact Or.inl (Int32.toInt_inj.mp (h.trans (by decide)))
  · exact Or.inr (Or.inl (Int32.toInt_inj.mp (h.trans (by decide))))
  · exact Or.inr (Or.inr (Or.inl (Int32.toInt_inj.mp (h.trans (by decide)))))
  · exact Or.inr (Or.inr (Or.inr (Or.inl (Int32.toInt_inj.mp (h.trans (by decide))))))
  · exact Or.inr (Or.inr (Or.inr (Or.inr (Or.inl (Int32.toInt_inj.mp (h.trans (by decide)))))))
  · exact Or.inr (Or.inr (Or.inr (Or.inr (Or.inr (Or.inl (Int32.toInt_inj.mp (h.trans (by decide))))))))
  · exact Or.inr (Or.inr (Or.inr (Or.inr (Or.inr (Or.inr (Or.inl (Int32.toInt_inj.mp (h.trans (by decide)))))))))
  · exact Or.inr (Or.inr (Or.inr (Or.inr (Or.inr (Or.inr (Or.inr (Or.inl (Int32.toInt_inj.mp (h.trans (by decide))))))))))
  · exact Or.inr (Or.inr (Or.inr (Or.inr (Or.inr (Or.inr (Or.inr (Or.inr (Or.inl (Int32.toInt_inj.mp (h.trans (by decide)))))))))))
  · exact Or.inr (Or.inr (Or.inr (Or.inr (Or.inr (Or.inr (Or.inr (Or.inr (Or.inr (Or.inl (Int32.toInt_inj.mp (h.trans (by decide))))))))))))
  · exact Or.inr (Or.inr (Or.inr (Or.inr (Or.inr (Or.inr (Or.inr (Or.inr (Or.inr (Or.inr (Or.inl (Int32.toInt_inj.mp (h.trans (by decide)))))))))))))
  · exact Or.inr (Or.inr (Or.inr (Or.inr (Or.inr (Or.inr (Or.inr (Or.inr (Or.inr (Or.inr (Or.inr (Or.inl (Int32.toInt_inj.mp (h.trans (by decide))))))))))))))
  · exact Or.inr (Or.inr (Or.inr (Or.inr (Or.inr (Or.inr (Or.inr (Or.inr (Or.inr (Or.inr (Or.inr (Or.inr (Or.inl (Int32.toInt_inj.mp (h.trans (by decide)))))))))))))))
  · exact Or.inr (Or.inr (Or.inr (Or.inr (Or.inr (Or.inr (Or.inr (Or.inr (Or.inr (Or.inr (Or.inr (Or.inr (Or.inr (Or.inl (Int32.toInt_inj.mp (h.trans (by decide))))))))))))))))
  · exact Or.inr (Or.inr (Or.inr (Or.inr (Or.inr (Or.inr (Or.inr (Or.inr (Or.inr (Or.inr (Or.inr (Or.inr (Or.inr (Or.inr ((Int32.toInt_inj.mp (h.trans (by decide)))))))))))))))))
theorem d1_0 : decode prog_168_method_5_code 0 = .ok (.aload_n 0, 1) := by decide +kernel
theorem d1_1 : decode prog_168_method_5_code 1 = .ok (.getstatic 19, 3) := by decide +kernel
theorem d1_4 : decode prog_168_method_5_code 4 = .ok (.if_acmp .eq 10, 3) := by decide +kernel
theorem d1_7 : decode prog_168_method_5_code 7 = .ok (.aload_n 0, 1) := by decide +kernel
theorem d1_8 : decode prog_168_method_5_code 8 = .ok (.getstatic 22, 3) := by decide +kernel
theorem d1_11 : decode prog_168_method_5_code 11 = .ok (.if_acmp .ne 7, 3) := by decide +kernel
theorem d1_14 : decode prog_168_method_5_code 14 = .ok (.iconst 1, 1) := by decide +kernel
theorem d1_15 : decode prog_168_method_5_code 15 = .ok (.goto 4, 3) := by decide +kernel
theorem d1_18 : decode prog_168_method_5_code 18 = .ok (.iconst 0, 1) := by decide +kernel
theorem d1_19 : decode prog_168_method_5_code 19 = .ok (.ireturn, 1) := by decide +kernel
theorem pn_0 : plainName "com/example/mimsy/mimsy/wabe/Operator" = true := by first | (simp [plainName, overriddenIn]; done) | decide +kernel
theorem ef_rm_sc (m : MethodId) (x0 : Addr) : entryFrame m #[(.ref x0)] 1 = mkF m 0 #[.val (.ref x0)] [] := by first | (simp [entryFrame, mkF, argsToLocals, Value.category]; done) | rfl
def Q_rm_sc (Z : State) (a1 : Addr) (w : Int32) (r0 : Addr) (r1 : Addr) (r2 : Addr) (r3 : Addr) (r4 : Addr) (r5 : Addr) (r6 : Addr) (r7 : Addr) (r8 : Addr) (r9 : Addr) (r10 : Addr) (r11 : Addr) (r12 : Addr) (r13 : Addr) (r14 : Addr) (h0 : Heap) (n0 : Nat) (v : Option Value) (h : Heap) (L : List Loc) : Prop := v = some (.int w) ∧ Fr n0 L ∧ h = h0
set_option maxRecDepth 65536 in
set_option maxHeartbeats 40000000 in
theorem rm_sc (l : Launch) (Z : State) (a0 : Array Value) (hw : ∀ d ∈ tables_1, d.before a0 Z = true) (ws : List Jvm.Cond) (a1 : Addr) (w : Int32) (r0 : Addr) (r1 : Addr) (r2 : Addr) (r3 : Addr) (r4 : Addr) (r5 : Addr) (r6 : Addr) (r7 : Addr) (r8 : Addr) (r9 : Addr) (r10 : Addr) (r11 : Addr) (r12 : Addr) (r13 : Addr) (r14 : Addr) (h0 : Heap) (n0 : Nat) (O0 : Old Z n0 h0) (hv : (if a1 = r5 ∨ a1 = r6 then (1 : Int32) else 0) = w) (G : own_W Z r0 r1 r2 r3 r4 r5 r6 r7 r8 r9 r10 r11 r12 r13 r14) :
    MetFree l (⟨"com/example/mimsy/mimsy/wabe/Operator", "shortCircuits", "()Z"⟩ : MethodName) (head1 (Jvm.Cond.code (⟨"com/example/mimsy/mimsy/wabe/Operator", "shortCircuits", "()Z"⟩ : MethodName) prog_168_method_5_code 1 (some .boolean) :: ws) ({ frames := 0, cells := 0, slots := 0, locals := 0 } : Room)) (fun a U => a = #[(.ref a1)] ∧ Z.Warmed39 U.vm ∧ U.heap = h0) (fun _ _ _ _ _ => True) (fun _ U o U' => ∃ v L, o = .returned v ∧ Q_rm_sc Z a1 w r0 r1 r2 r3 r4 r5 r6 r7 r8 r9 r10 r11 r12 r13 r14 h0 n0 v U'.heap L ∧ FrameEnd U o U' L ({ frames := 0, cells := 0, slots := 0, locals := 0 } : Room).cells ({ frames := 0, cells := 0, slots := 0, locals := 0 } : Room).slots) := by
  refine MetFree.of_bodySF (plainFor_of_name pn_0) hisR ?_
  intro p e s m args below meth c s₁ Bd hml0 hP hK
  obtain ⟨rfl, hZ, hh⟩ := hP
  have hx := Bd.exec
  have hby := Bd.bytes
  have hml : c.maxLocals = 1 := hml0
  have hown : s.vm.findClass "com/example/mimsy/mimsy/wabe/Operator" = some m.cls := findClass_of_methodNamed Bd.named
  have hnm := (name_of_methodNamed Bd.named Bd.method).1
  have hlk := BodyLoose.notSynchronized Bd
  have X0 : Stand p l e ({ frames := 0, cells := 0, slots := 0, locals := 0 } : Room) s m #[(.ref a1)] below meth c s₁ [] 0 0 := Stand.of_body Bd
  have e0 : s₁.heap = h0 := by rw [← hh, Bd.state]; rfl
  have N0 := Fr.nil n0
  show own_Ends p e below s (Q_rm_sc Z a1 w r0 r1 r2 r3 r4 r5 r6 r7 r8 r9 r10 r11 r12 r13 r14 h0 n0) ({ frames := 0, cells := 0, slots := 0, locals := 0 } : Room).cells ({ frames := 0, cells := 0, slots := 0, locals := 0 } : Room).slots s₁ (entryFrame m #[(.ref a1)] 1)
  rw [ef_rm_sc m a1]
  have G' := G
  obtain ⟨S_0, E_0, S_1, E_1, S_2, E_2, S_3, E_3, S_4, E_4, S_5, E_5, S_6, E_6, S_7, E_7, S_8, E_8, S_9, E_9, S_10, E_10, S_11, E_11, S_12, E_12, S_13, E_13, S_14, E_14, F_0_opcode, F_0_ordinal, F_5_ordinal, F_6_ordinal, F_3_opcode, F_3_ordinal, F_5_opcode, F_5_operands, F_13_opcode, F_13_ordinal, F_6_opcode, F_6_operands, F_14_opcode, F_14_ordinal, F_7_opcode, F_7_ordinal, F_2_opcode, F_2_ordinal, F_11_opcode, F_11_ordinal, F_10_opcode, F_10_ordinal, F_8_opcode, F_8_ordinal, F_1_opcode, F_1_ordinal, F_12_opcode, F_12_ordinal, F_4_opcode, F_4_ordinal, F_9_opcode, F_9_ordinal, F_0_operands, F_1_operands, F_2_operands, F_3_operands, F_4_operands, F_7_operands, F_8_operands, F_9_operands, F_10_operands, F_11_operands, F_12_operands, F_13_operands, F_14_operands⟩ := G'
  show own_Ends _ _ _ _ _ _ _ s₁ (mkF m 0 #[.val (.ref a1)] [])
  refine own_st (fun _ kq => XS.aloadN X0.here hx rfl (hb hby d1_0) rfl rfl kq) ?_
  show own_Ends _ _ _ _ _ _ _ s₁ (mkF m 1 #[.val (.ref a1)] [(.ref a1)])
  obtain ⟨T1, X1, e1, st1⟩ := getS2 X0 hx hZ hown (host := "") (Or.inl (hw _ (List.mem_of_getElem? (i := 42) rfl))) Via.refl e0 (S_5.ext O0.2) (g := (mkF m 1 #[.val (.ref a1)] [(.ref a1)])) rfl (hb hby d1_1)
  refine own_st st1 ?_
  show own_Ends _ _ _ _ _ _ _ T1 (mkF m 4 #[.val (.ref a1)] [(.ref r5), (.ref a1)])
  by_cases ha4 : a1 = r5
  · skip
    refine own_st (fun _ kq => Jvm.RoadKit.acmp (g := (mkF m 4 #[.val (.ref a1)] [(.ref r5), (.ref a1)])) X1 hx rfl rfl rfl (pc0 := 4) (pc' := 14) (same := true) rfl (hb hby d1_4) rfl (decide_eq_true (congrArg Value.ref ha4)) (by decide) (by decide) kq) ?_
    show own_Ends _ _ _ _ _ _ _ T1 (mkF m 14 #[.val (.ref a1)] [])
    refine own_st (fun _ kq => XS.iconst X1.here hx rfl (hb hby d1_14) kq) ?_
    show own_Ends _ _ _ _ _ _ _ T1 (mkF m 15 #[.val (.ref a1)] [(.int (1 : Int32))])
    refine own_st (fun _ kq => XS.goto X1.here hx rfl (pc0 := 15) (pc' := 19) rfl (hb hby d1_15) (by decide) (by decide) kq) ?_
    show own_Ends _ _ _ _ _ _ _ T1 (mkF m 19 #[.val (.ref a1)] [(.int (1 : Int32))])
    refine own_retN X1 hx (t := .boolean) Bd.returns (by simp) (hb hby d1_19) hlk (by decide) (by decide) (w := (1 : Int32)) (by decide) ?_
    show Q_rm_sc Z a1 w r0 r1 r2 r3 r4 r5 r6 r7 r8 r9 r10 r11 r12 r13 r14 h0 n0 _ T1.heap _
    rw [e1]
    exact ⟨by rw [← hv]; simp [ha4], N0, rfl⟩
  · skip
    refine own_st (fun _ kq => Jvm.RoadKit.acmp (g := (mkF m 4 #[.val (.ref a1)] [(.ref r5), (.ref a1)])) X1 hx rfl rfl rfl (pc0 := 4) (pc' := 7) (same := false) rfl (hb hby d1_4) rfl (decide_eq_false fun q => ha4 (Value.ref.inj q)) (by decide) (by decide) kq) ?_
    show own_Ends _ _ _ _ _ _ _ T1 (mkF m 7 #[.val (.ref a1)] [])
    refine own_st (fun _ kq => XS.aloadN X1.here hx rfl (hb hby d1_7) rfl rfl kq) ?_
    show own_Ends _ _ _ _ _ _ _ T1 (mkF m 8 #[.val (.ref a1)] [(.ref a1)])
    obtain ⟨T2, X2, e2, st2⟩ := getS2 X1 hx hZ hown (host := "") (Or.inl (hw _ (List.mem_of_getElem? (i := 43) rfl))) Via.refl e1 (S_6.ext O0.2) (g := (mkF m 8 #[.val (.ref a1)] [(.ref a1)])) rfl (hb hby d1_8)
    refine own_st st2 ?_
    show own_Ends _ _ _ _ _ _ _ T2 (mkF m 11 #[.val (.ref a1)] [(.ref r6), (.ref a1)])
    by_cases ha11 : a1 = r6
    · skip
      refine own_st (fun _ kq => Jvm.RoadKit.acmp (g := (mkF m 11 #[.val (.ref a1)] [(.ref r6), (.ref a1)])) X2 hx rfl rfl rfl (pc0 := 11) (pc' := 14) (same := true) rfl (hb hby d1_11) rfl (decide_eq_true (congrArg Value.ref ha11)) (by decide) (by decide) kq) ?_
      show own_Ends _ _ _ _ _ _ _ T2 (mkF m 14 #[.val (.ref a1)] [])
      refine own_st (fun _ kq => XS.iconst X2.here hx rfl (hb hby d1_14) kq) ?_
      show own_Ends _ _ _ _ _ _ _ T2 (mkF m 15 #[.val (.ref a1)] [(.int (1 : Int32))])
      refine own_st (fun _ kq => XS.goto X2.here hx rfl (pc0 := 15) (pc' := 19) rfl (hb hby d1_15) (by decide) (by decide) kq) ?_
      show own_Ends _ _ _ _ _ _ _ T2 (mkF m 19 #[.val (.ref a1)] [(.int (1 : Int32))])
      refine own_retN X2 hx (t := .boolean) Bd.returns (by simp) (hb hby d1_19) hlk (by decide) (by decide) (w := (1 : Int32)) (by decide) ?_
      show Q_rm_sc Z a1 w r0 r1 r2 r3 r4 r5 r6 r7 r8 r9 r10 r11 r12 r13 r14 h0 n0 _ T2.heap _
      rw [e2]
      exact ⟨by rw [← hv]; simp [ha4, ha11], N0, rfl⟩
    · skip
      refine own_st (fun _ kq => Jvm.RoadKit.acmp (g := (mkF m 11 #[.val (.ref a1)] [(.ref r6), (.ref a1)])) X2 hx rfl rfl rfl (pc0 := 11) (pc' := 18) (same := false) rfl (hb hby d1_11) rfl (decide_eq_false fun q => ha11 (Value.ref.inj q)) (by decide) (by decide) kq) ?_
      show own_Ends _ _ _ _ _ _ _ T2 (mkF m 18 #[.val (.ref a1)] [])
      refine own_st (fun _ kq => XS.iconst X2.here hx rfl (hb hby d1_18) kq) ?_
      show own_Ends _ _ _ _ _ _ _ T2 (mkF m 19 #[.val (.ref a1)] [(.int (0 : Int32))])
      refine own_retN X2 hx (t := .boolean) Bd.returns (by simp) (hb hby d1_19) hlk (by decide) (by decide) (w := (0 : Int32)) (by decide) ?_
      show Q_rm_sc Z a1 w r0 r1 r2 r3 r4 r5 r6 r7 r8 r9 r10 r11 r12 r13 r14 h0 n0 _ T2.heap _
      rw [e2]
      exact ⟨by rw [← hv]; simp [ha4, ha11], N0, rfl⟩
theorem pn_1 : plainName "com/example/mimsy/mimsy/wabe/OperatorShortCircuitsPinLaw" = true := by first | (simp [plainName, overriddenIn]; done) | decide +kernel
theorem ef_rm_law (m : MethodId) (x0 : Int32) : entryFrame m #[(.int x0)] maxLocals = mkF m 0 #[.val (.int x0), .unset, .unset, .unset, .unset] [] := by first | (simp [entryFrame, mkF, argsToLocals, Value.category, maxLocals]; done) | rfl
def Q_rm_law (Z : State) (p1 : Int32) (r0 : Addr) (r1 : Addr) (r2 : Addr) (r3 : Addr) (r4 : Addr) (r5 : Addr) (r6 : Addr) (r7 : Addr) (r8 : Addr) (r9 : Addr) (r10 : Addr) (r11 : Addr) (r12 : Addr) (r13 : Addr) (r14 : Addr) (h0 : Heap) (n0 : Nat) (v : Option Value) (h : Heap) (L : List Loc) : Prop := v = some (.int 1) ∧ Fr n0 L
set_option maxRecDepth 65536 in
set_option maxHeartbeats 40000000 in
theorem rm_law (l : Launch) (Z : State) (a0 : Array Value) (hw : ∀ d ∈ tables_1, d.before a0 Z = true) (ws : List Jvm.Cond) (p1 : Int32) (r0 : Addr) (r1 : Addr) (r2 : Addr) (r3 : Addr) (r4 : Addr) (r5 : Addr) (r6 : Addr) (r7 : Addr) (r8 : Addr) (r9 : Addr) (r10 : Addr) (r11 : Addr) (r12 : Addr) (r13 : Addr) (r14 : Addr) (h0 : Heap) (n0 : Nat) (O0 : Old Z n0 h0) (G : own_W Z r0 r1 r2 r3 r4 r5 r6 r7 r8 r9 r10 r11 r12 r13 r14) :
    MetFree l x (head1 (Jvm.Cond.code x code maxLocals ret :: ws) room_1) (fun a U => a = #[(.int p1)] ∧ Z.Warmed39 U.vm ∧ U.heap = h0) (fun _ _ _ _ _ => True) (fun _ U o U' => ∃ v L, o = .returned v ∧ Q_rm_law Z p1 r0 r1 r2 r3 r4 r5 r6 r7 r8 r9 r10 r11 r12 r13 r14 h0 n0 v U'.heap L ∧ FrameEnd U o U' L room_1.cells room_1.slots) := by
  refine MetFree.of_bodySF (plainFor_of_name pn_1) hisR ?_
  intro p e s m args below meth c s₁ Bd hml0 hP hK
  obtain ⟨rfl, hZ, hh⟩ := hP
  have hx := Bd.exec
  have hby := Bd.bytes
  have hml : c.maxLocals = 5 := hml0
  have hown : s.vm.findClass "com/example/mimsy/mimsy/wabe/OperatorShortCircuitsPinLaw" = some m.cls := findClass_of_methodNamed Bd.named
  have hnm := (name_of_methodNamed Bd.named Bd.method).1
  have hlk := BodyLoose.notSynchronized Bd
  have X0 : Stand p l e room_1 s m #[(.int p1)] below meth c s₁ [] 0 0 := Stand.of_body Bd
  have e0 : s₁.heap = h0 := by rw [← hh, Bd.state]; rfl
  have N0 := Fr.nil n0
  show own_Ends p e below s (Q_rm_law Z p1 r0 r1 r2 r3 r4 r5 r6 r7 r8 r9 r10 r11 r12 r13 r14 h0 n0) room_1.cells room_1.slots s₁ (entryFrame m #[(.int p1)] maxLocals)
  rw [ef_rm_law m p1]
  have G' := G
  obtain ⟨S_0, E_0, S_1, E_1, S_2, E_2, S_3, E_3, S_4, E_4, S_5, E_5, S_6, E_6, S_7, E_7, S_8, E_8, S_9, E_9, S_10, E_10, S_11, E_11, S_12, E_12, S_13, E_13, S_14, E_14, F_0_opcode, F_0_ordinal, F_5_ordinal, F_6_ordinal, F_3_opcode, F_3_ordinal, F_5_opcode, F_5_operands, F_13_opcode, F_13_ordinal, F_6_opcode, F_6_operands, F_14_opcode, F_14_ordinal, F_7_opcode, F_7_ordinal, F_2_opcode, F_2_ordinal, F_11_opcode, F_11_ordinal, F_10_opcode, F_10_ordinal, F_8_opcode, F_8_ordinal, F_1_opcode, F_1_ordinal, F_12_opcode, F_12_ordinal, F_4_opcode, F_4_ordinal, F_9_opcode, F_9_ordinal, F_0_operands, F_1_operands, F_2_operands, F_3_operands, F_4_operands, F_7_operands, F_8_operands, F_9_operands, F_10_operands, F_11_operands, F_12_operands, F_13_operands, F_14_operands⟩ := G'
  show own_Ends _ _ _ _ _ _ _ s₁ (mkF m 0 #[.val (.int p1), .unset, .unset, .unset, .unset] [])
  refine own_st (fun _ kq => XS.bipush X0.here hx rfl (hb hby at_0) kq) ?_
  show own_Ends _ _ _ _ _ _ _ s₁ (mkF m 2 #[.val (.int p1), .unset, .unset, .unset, .unset] [(.int (15 : Int32))])
  obtain ⟨T1, h1, k1, X1, e1, E1, A1, Ov, st1⟩ := newR X0 hx hZ hown (hw _ (List.mem_of_getElem? (i := 0) rfl)) (hw _ (List.mem_of_getElem? (i := 1) rfl)) e0 (g := (mkF m 2 #[.val (.int p1), .unset, .unset, .unset, .unset] [(.int (15 : Int32))])) rfl (hb hby at_2) rfl (by decide) (cap := 15) (by decide) (by decide) (by decide) (by decide)
  obtain ⟨b1, g1⟩ : ∃ z, z = h0.size := ⟨_, rfl⟩
  rw [← g1] at A1 st1
  have gb : n0 ≤ b1 := Nat.le_trans (O0.1 ▸ O0.2.1) (Nat.le_of_eq g1.symm)
  have V0 : Arv Z h1 b1 k1 (.object "com/example/mimsy/mimsy/wabe/Operator") (15 : Int32) [.null, .null, .null, .null, .null, .null, .null, .null, .null, .null, .null, .null, .null, .null, .null] .null := (Arv.new A1 (by decide)).pad (pad_rep [] .null 15)
  have O1 := O0.ext E1
  refine own_st st1 ?_
  show own_Ends _ _ _ _ _ _ _ T1 (mkF m 5 #[.val (.int p1), .unset, .unset, .unset, .unset] [(.ref b1)])
  refine own_st (fun _ kq => XS.dup X1.here hx rfl (hb hby at_5) rfl rfl kq) ?_
  show own_Ends _ _ _ _ _ _ _ T1 (mkF m 6 #[.val (.int p1), .unset, .unset, .unset, .unset] [(.ref b1), (.ref b1)])
  refine own_st (fun _ kq => XS.iconst X1.here hx rfl (hb hby at_6) kq) ?_
  show own_Ends _ _ _ _ _ _ _ T1 (mkF m 7 #[.val (.int p1), .unset, .unset, .unset, .unset] [(.int (0 : Int32)), (.ref b1), (.ref b1)])
  obtain ⟨T2, X2, e2, st2⟩ := getS2 X1 hx hZ hown (host := "") (Or.inl (hw _ (List.mem_of_getElem? (i := 2) rfl))) Via.refl e1 (S_0.ext O1.2) (g := (mkF m 7 #[.val (.int p1), .unset, .unset, .unset, .unset] [(.int (0 : Int32)), (.ref b1), (.ref b1)])) rfl (hb hby at_7)
  refine own_st st2 ?_
  show own_Ends _ _ _ _ _ _ _ T2 (mkF m 10 #[.val (.int p1), .unset, .unset, .unset, .unset] [(.ref r0), (.int (0 : Int32)), (.ref b1), (.ref b1)])
  obtain ⟨T3, h3, X3, e3, W3, V3', st3⟩ := own_fill X2 hx hZ e2 V0 Ov (Ins.self (E_0.ext O1.2)) (j := (0 : Int32)) 0 rfl (by simp) (by decide) (g := (mkF m 10 #[.val (.int p1), .unset, .unset, .unset, .unset] [(.ref r0), (.int (0 : Int32)), (.ref b1), (.ref b1)])) rfl rfl (hb hby at_10)
  have V3 : Arv Z h3 b1 k1 (.object "com/example/mimsy/mimsy/wabe/Operator") (15 : Int32) [(.ref r0), .null, .null, .null, .null, .null, .null, .null, .null, .null, .null, .null, .null, .null, .null] .null := V3'
  have N3 := Fr.snoc X3 N0 gb
  have O3 := O1.wr W3 gb
  refine own_st st3 ?_
  show own_Ends _ _ _ _ _ _ _ T3 (mkF m 11 #[.val (.int p1), .unset, .unset, .unset, .unset] [(.ref b1)])
  refine own_st (fun _ kq => XS.dup X3.here hx rfl (hb hby at_11) rfl rfl kq) ?_
  show own_Ends _ _ _ _ _ _ _ T3 (mkF m 12 #[.val (.int p1), .unset, .unset, .unset, .unset] [(.ref b1), (.ref b1)])
  refine own_st (fun _ kq => XS.iconst X3.here hx rfl (hb hby at_12) kq) ?_
  show own_Ends _ _ _ _ _ _ _ T3 (mkF m 13 #[.val (.int p1), .unset, .unset, .unset, .unset] [(.int (1 : Int32)), (.ref b1), (.ref b1)])
  obtain ⟨T4, X4, e4, st4⟩ := getS2 X3 hx hZ hown (host := "") (Or.inl (hw _ (List.mem_of_getElem? (i := 6) rfl))) Via.refl e3 (S_1.ext O3.2) (g := (mkF m 13 #[.val (.int p1), .unset, .unset, .unset, .unset] [(.int (1 : Int32)), (.ref b1), (.ref b1)])) rfl (hb hby at_13)
  refine own_st st4 ?_
  show own_Ends _ _ _ _ _ _ _ T4 (mkF m 16 #[.val (.int p1), .unset, .unset, .unset, .unset] [(.ref r1), (.int (1 : Int32)), (.ref b1), (.ref b1)])
  obtain ⟨T5, h5, X5, e5, W5, V5', st5⟩ := own_fill X4 hx hZ e4 V3 Ov (Ins.self (E_1.ext O3.2)) (j := (1 : Int32)) 1 rfl (by simp) (by decide) (g := (mkF m 16 #[.val (.int p1), .unset, .unset, .unset, .unset] [(.ref r1), (.int (1 : Int32)), (.ref b1), (.ref b1)])) rfl rfl (hb hby at_16)
  have V5 : Arv Z h5 b1 k1 (.object "com/example/mimsy/mimsy/wabe/Operator") (15 : Int32) [(.ref r0), (.ref r1), .null, .null, .null, .null, .null, .null, .null, .null, .null, .null, .null, .null, .null] .null := V5'
  have N5 := Fr.snoc X5 N3 gb
  have O5 := O3.wr W5 gb
  refine own_st st5 ?_
  show own_Ends _ _ _ _ _ _ _ T5 (mkF m 17 #[.val (.int p1), .unset, .unset, .unset, .unset] [(.ref b1)])
  refine own_st (fun _ kq => XS.dup X5.here hx rfl (hb hby at_17) rfl rfl kq) ?_
  show own_Ends _ _ _ _ _ _ _ T5 (mkF m 18 #[.val (.int p1), .unset, .unset, .unset, .unset] [(.ref b1), (.ref b1)])
  refine own_st (fun _ kq => XS.iconst X5.here hx rfl (hb hby at_18) kq) ?_
  show own_Ends _ _ _ _ _ _ _ T5 (mkF m 19 #[.val (.int p1), .unset, .unset, .unset, .unset] [(.int (2 : Int32)), (.ref b1), (.ref b1)])
  obtain ⟨T6, X6, e6, st6⟩ := getS2 X5 hx hZ hown (host := "") (Or.inl (hw _ (List.mem_of_getElem? (i := 8) rfl))) Via.refl e5 (S_2.ext O5.2) (g := (mkF m 19 #[.val (.int p1), .unset, .unset, .unset, .unset] [(.int (2 : Int32)), (.ref b1), (.ref b1)])) rfl (hb hby at_19)
  refine own_st st6 ?_
  show own_Ends _ _ _ _ _ _ _ T6 (mkF m 22 #[.val (.int p1), .unset, .unset, .unset, .unset] [(.ref r2), (.int (2 : Int32)), (.ref b1), (.ref b1)])
  obtain ⟨T7, h7, X7, e7, W7, V7', st7⟩ := own_fill X6 hx hZ e6 V5 Ov (Ins.self (E_2.ext O5.2)) (j := (2 : Int32)) 2 rfl (by simp) (by decide) (g := (mkF m 22 #[.val (.int p1), .unset, .unset, .unset, .unset] [(.ref r2), (.int (2 : Int32)), (.ref b1), (.ref b1)])) rfl rfl (hb hby at_22)
  have V7 : Arv Z h7 b1 k1 (.object "com/example/mimsy/mimsy/wabe/Operator") (15 : Int32) [(.ref r0), (.ref r1), (.ref r2), .null, .null, .null, .null, .null, .null, .null, .null, .null, .null, .null, .null] .null := V7'
  have N7 := Fr.snoc X7 N5 gb
  have O7 := O5.wr W7 gb
  refine own_st st7 ?_
  show own_Ends _ _ _ _ _ _ _ T7 (mkF m 23 #[.val (.int p1), .unset, .unset, .unset, .unset] [(.ref b1)])
  refine own_st (fun _ kq => XS.dup X7.here hx rfl (hb hby at_23) rfl rfl kq) ?_
  show own_Ends _ _ _ _ _ _ _ T7 (mkF m 24 #[.val (.int p1), .unset, .unset, .unset, .unset] [(.ref b1), (.ref b1)])
  refine own_st (fun _ kq => XS.iconst X7.here hx rfl (hb hby at_24) kq) ?_
  show own_Ends _ _ _ _ _ _ _ T7 (mkF m 25 #[.val (.int p1), .unset, .unset, .unset, .unset] [(.int (3 : Int32)), (.ref b1), (.ref b1)])
  obtain ⟨T8, X8, e8, st8⟩ := getS2 X7 hx hZ hown (host := "") (Or.inl (hw _ (List.mem_of_getElem? (i := 10) rfl))) Via.refl e7 (S_3.ext O7.2) (g := (mkF m 25 #[.val (.int p1), .unset, .unset, .unset, .unset] [(.int (3 : Int32)), (.ref b1), (.ref b1)])) rfl (hb hby at_25)
  refine own_st st8 ?_
  show own_Ends _ _ _ _ _ _ _ T8 (mkF m 28 #[.val (.int p1), .unset, .unset, .unset, .unset] [(.ref r3), (.int (3 : Int32)), (.ref b1), (.ref b1)])
  obtain ⟨T9, h9, X9, e9, W9, V9', st9⟩ := own_fill X8 hx hZ e8 V7 Ov (Ins.self (E_3.ext O7.2)) (j := (3 : Int32)) 3 rfl (by simp) (by decide) (g := (mkF m 28 #[.val (.int p1), .unset, .unset, .unset, .unset] [(.ref r3), (.int (3 : Int32)), (.ref b1), (.ref b1)])) rfl rfl (hb hby at_28)
  have V9 : Arv Z h9 b1 k1 (.object "com/example/mimsy/mimsy/wabe/Operator") (15 : Int32) [(.ref r0), (.ref r1), (.ref r2), (.ref r3), .null, .null, .null, .null, .null, .null, .null, .null, .null, .null, .null] .null := V9'
  have N9 := Fr.snoc X9 N7 gb
  have O9 := O7.wr W9 gb
  refine own_st st9 ?_
  show own_Ends _ _ _ _ _ _ _ T9 (mkF m 29 #[.val (.int p1), .unset, .unset, .unset, .unset] [(.ref b1)])
  refine own_st (fun _ kq => XS.dup X9.here hx rfl (hb hby at_29) rfl rfl kq) ?_
  show own_Ends _ _ _ _ _ _ _ T9 (mkF m 30 #[.val (.int p1), .unset, .unset, .unset, .unset] [(.ref b1), (.ref b1)])
  refine own_st (fun _ kq => XS.iconst X9.here hx rfl (hb hby at_30) kq) ?_
  show own_Ends _ _ _ _ _ _ _ T9 (mkF m 31 #[.val (.int p1), .unset, .unset, .unset, .unset] [(.int (4 : Int32)), (.ref b1), (.ref b1)])
  obtain ⟨T10, X10, e10, st10⟩ := getS2 X9 hx hZ hown (host := "") (Or.inl (hw _ (List.mem_of_getElem? (i := 12) rfl))) Via.refl e9 (S_4.ext O9.2) (g := (mkF m 31 #[.val (.int p1), .unset, .unset, .unset, .unset] [(.int (4 : Int32)), (.ref b1), (.ref b1)])) rfl (hb hby at_31)
  refine own_st st10 ?_
  show own_Ends _ _ _ _ _ _ _ T10 (mkF m 34 #[.val (.int p1), .unset, .unset, .unset, .unset] [(.ref r4), (.int (4 : Int32)), (.ref b1), (.ref b1)])
  obtain ⟨T11, h11, X11, e11, W11, V11', st11⟩ := own_fill X10 hx hZ e10 V9 Ov (Ins.self (E_4.ext O9.2)) (j := (4 : Int32)) 4 rfl (by simp) (by decide) (g := (mkF m 34 #[.val (.int p1), .unset, .unset, .unset, .unset] [(.ref r4), (.int (4 : Int32)), (.ref b1), (.ref b1)])) rfl rfl (hb hby at_34)
  have V11 : Arv Z h11 b1 k1 (.object "com/example/mimsy/mimsy/wabe/Operator") (15 : Int32) [(.ref r0), (.ref r1), (.ref r2), (.ref r3), (.ref r4), .null, .null, .null, .null, .null, .null, .null, .null, .null, .null] .null := V11'
  have N11 := Fr.snoc X11 N9 gb
  have O11 := O9.wr W11 gb
  refine own_st st11 ?_
  show own_Ends _ _ _ _ _ _ _ T11 (mkF m 35 #[.val (.int p1), .unset, .unset, .unset, .unset] [(.ref b1)])
  refine own_st (fun _ kq => XS.dup X11.here hx rfl (hb hby at_35) rfl rfl kq) ?_
  show own_Ends _ _ _ _ _ _ _ T11 (mkF m 36 #[.val (.int p1), .unset, .unset, .unset, .unset] [(.ref b1), (.ref b1)])
  refine own_st (fun _ kq => XS.iconst X11.here hx rfl (hb hby at_36) kq) ?_
  show own_Ends _ _ _ _ _ _ _ T11 (mkF m 37 #[.val (.int p1), .unset, .unset, .unset, .unset] [(.int (5 : Int32)), (.ref b1), (.ref b1)])
  obtain ⟨T12, X12, e12, st12⟩ := getS2 X11 hx hZ hown (host := "") (Or.inl (hw _ (List.mem_of_getElem? (i := 14) rfl))) Via.refl e11 (S_5.ext O11.2) (g := (mkF m 37 #[.val (.int p1), .unset, .unset, .unset, .unset] [(.int (5 : Int32)), (.ref b1), (.ref b1)])) rfl (hb hby at_37)
  refine own_st st12 ?_
  show own_Ends _ _ _ _ _ _ _ T12 (mkF m 40 #[.val (.int p1), .unset, .unset, .unset, .unset] [(.ref r5), (.int (5 : Int32)), (.ref b1), (.ref b1)])
  obtain ⟨T13, h13, X13, e13, W13, V13', st13⟩ := own_fill X12 hx hZ e12 V11 Ov (Ins.self (E_5.ext O11.2)) (j := (5 : Int32)) 5 rfl (by simp) (by decide) (g := (mkF m 40 #[.val (.int p1), .unset, .unset, .unset, .unset] [(.ref r5), (.int (5 : Int32)), (.ref b1), (.ref b1)])) rfl rfl (hb hby at_40)
  have V13 : Arv Z h13 b1 k1 (.object "com/example/mimsy/mimsy/wabe/Operator") (15 : Int32) [(.ref r0), (.ref r1), (.ref r2), (.ref r3), (.ref r4), (.ref r5), .null, .null, .null, .null, .null, .null, .null, .null, .null] .null := V13'
  have N13 := Fr.snoc X13 N11 gb
  have O13 := O11.wr W13 gb
  refine own_st st13 ?_
  show own_Ends _ _ _ _ _ _ _ T13 (mkF m 41 #[.val (.int p1), .unset, .unset, .unset, .unset] [(.ref b1)])
  refine own_st (fun _ kq => XS.dup X13.here hx rfl (hb hby at_41) rfl rfl kq) ?_
  show own_Ends _ _ _ _ _ _ _ T13 (mkF m 42 #[.val (.int p1), .unset, .unset, .unset, .unset] [(.ref b1), (.ref b1)])
  refine own_st (fun _ kq => XS.bipush X13.here hx rfl (hb hby at_42) kq) ?_
  show own_Ends _ _ _ _ _ _ _ T13 (mkF m 44 #[.val (.int p1), .unset, .unset, .unset, .unset] [(.int (6 : Int32)), (.ref b1), (.ref b1)])
  obtain ⟨T14, X14, e14, st14⟩ := getS2 X13 hx hZ hown (host := "") (Or.inl (hw _ (List.mem_of_getElem? (i := 16) rfl))) Via.refl e13 (S_6.ext O13.2) (g := (mkF m 44 #[.val (.int p1), .unset, .unset, .unset, .unset] [(.int (6 : Int32)), (.ref b1), (.ref b1)])) rfl (hb hby at_44)
  refine own_st st14 ?_
  show own_Ends _ _ _ _ _ _ _ T14 (mkF m 47 #[.val (.int p1), .unset, .unset, .unset, .unset] [(.ref r6), (.int (6 : Int32)), (.ref b1), (.ref b1)])
  obtain ⟨T15, h15, X15, e15, W15, V15', st15⟩ := own_fill X14 hx hZ e14 V13 Ov (Ins.self (E_6.ext O13.2)) (j := (6 : Int32)) 6 rfl (by simp) (by decide) (g := (mkF m 47 #[.val (.int p1), .unset, .unset, .unset, .unset] [(.ref r6), (.int (6 : Int32)), (.ref b1), (.ref b1)])) rfl rfl (hb hby at_47)
  have V15 : Arv Z h15 b1 k1 (.object "com/example/mimsy/mimsy/wabe/Operator") (15 : Int32) [(.ref r0), (.ref r1), (.ref r2), (.ref r3), (.ref r4), (.ref r5), (.ref r6), .null, .null, .null, .null, .null, .null, .null, .null] .null := V15'
  have N15 := Fr.snoc X15 N13 gb
  have O15 := O13.wr W15 gb
  refine own_st st15 ?_
  show own_Ends _ _ _ _ _ _ _ T15 (mkF m 48 #[.val (.int p1), .unset, .unset, .unset, .unset] [(.ref b1)])
  refine own_st (fun _ kq => XS.dup X15.here hx rfl (hb hby at_48) rfl rfl kq) ?_
  show own_Ends _ _ _ _ _ _ _ T15 (mkF m 49 #[.val (.int p1), .unset, .unset, .unset, .unset] [(.ref b1), (.ref b1)])
  refine own_st (fun _ kq => XS.bipush X15.here hx rfl (hb hby at_49) kq) ?_
  show own_Ends _ _ _ _ _ _ _ T15 (mkF m 51 #[.val (.int p1), .unset, .unset, .unset, .unset] [(.int (7 : Int32)), (.ref b1), (.ref b1)])
  obtain ⟨T16, X16, e16, st16⟩ := getS2 X15 hx hZ hown (host := "") (Or.inl (hw _ (List.mem_of_getElem? (i := 18) rfl))) Via.refl e15 (S_7.ext O15.2) (g := (mkF m 51 #[.val (.int p1), .unset, .unset, .unset, .unset] [(.int (7 : Int32)), (.ref b1), (.ref b1)])) rfl (hb hby at_51)
  refine own_st st16 ?_
  show own_Ends _ _ _ _ _ _ _ T16 (mkF m 54 #[.val (.int p1), .unset, .unset, .unset, .unset] [(.ref r7), (.int (7 : Int32)), (.ref b1), (.ref b1)])
  obtain ⟨T17, h17, X17, e17, W17, V17', st17⟩ := own_fill X16 hx hZ e16 V15 Ov (Ins.self (E_7.ext O15.2)) (j := (7 : Int32)) 7 rfl (by simp) (by decide) (g := (mkF m 54 #[.val (.int p1), .unset, .unset, .unset, .unset] [(.ref r7), (.int (7 : Int32)), (.ref b1), (.ref b1)])) rfl rfl (hb hby at_54)
  have V17 : Arv Z h17 b1 k1 (.object "com/example/mimsy/mimsy/wabe/Operator") (15 : Int32) [(.ref r0), (.ref r1), (.ref r2), (.ref r3), (.ref r4), (.ref r5), (.ref r6), (.ref r7), .null, .null, .null, .null, .null, .null, .null] .null := V17'
  have N17 := Fr.snoc X17 N15 gb
  have O17 := O15.wr W17 gb
  refine own_st st17 ?_
  show own_Ends _ _ _ _ _ _ _ T17 (mkF m 55 #[.val (.int p1), .unset, .unset, .unset, .unset] [(.ref b1)])
  refine own_st (fun _ kq => XS.dup X17.here hx rfl (hb hby at_55) rfl rfl kq) ?_
  show own_Ends _ _ _ _ _ _ _ T17 (mkF m 56 #[.val (.int p1), .unset, .unset, .unset, .unset] [(.ref b1), (.ref b1)])
  refine own_st (fun _ kq => XS.bipush X17.here hx rfl (hb hby at_56) kq) ?_
  show own_Ends _ _ _ _ _ _ _ T17 (mkF m 58 #[.val (.int p1), .unset, .unset, .unset, .unset] [(.int (8 : Int32)), (.ref b1), (.ref b1)])
  obtain ⟨T18, X18, e18, st18⟩ := getS2 X17 hx hZ hown (host := "") (Or.inl (hw _ (List.mem_of_getElem? (i := 20) rfl))) Via.refl e17 (S_8.ext O17.2) (g := (mkF m 58 #[.val (.int p1), .unset, .unset, .unset, .unset] [(.int (8 : Int32)), (.ref b1), (.ref b1)])) rfl (hb hby at_58)
  refine own_st st18 ?_
  show own_Ends _ _ _ _ _ _ _ T18 (mkF m 61 #[.val (.int p1), .unset, .unset, .unset, .unset] [(.ref r8), (.int (8 : Int32)), (.ref b1), (.ref b1)])
  obtain ⟨T19, h19, X19, e19, W19, V19', st19⟩ := own_fill X18 hx hZ e18 V17 Ov (Ins.self (E_8.ext O17.2)) (j := (8 : Int32)) 8 rfl (by simp) (by decide) (g := (mkF m 61 #[.val (.int p1), .unset, .unset, .unset, .unset] [(.ref r8), (.int (8 : Int32)), (.ref b1), (.ref b1)])) rfl rfl (hb hby at_61)
  have V19 : Arv Z h19 b1 k1 (.object "com/example/mimsy/mimsy/wabe/Operator") (15 : Int32) [(.ref r0), (.ref r1), (.ref r2), (.ref r3), (.ref r4), (.ref r5), (.ref r6), (.ref r7), (.ref r8), .null, .null, .null, .null, .null, .null] .null := V19'
  have N19 := Fr.snoc X19 N17 gb
  have O19 := O17.wr W19 gb
  refine own_st st19 ?_
  show own_Ends _ _ _ _ _ _ _ T19 (mkF m 62 #[.val (.int p1), .unset, .unset, .unset, .unset] [(.ref b1)])
  refine own_st (fun _ kq => XS.dup X19.here hx rfl (hb hby at_62) rfl rfl kq) ?_
  show own_Ends _ _ _ _ _ _ _ T19 (mkF m 63 #[.val (.int p1), .unset, .unset, .unset, .unset] [(.ref b1), (.ref b1)])
  refine own_st (fun _ kq => XS.bipush X19.here hx rfl (hb hby at_63) kq) ?_
  show own_Ends _ _ _ _ _ _ _ T19 (mkF m 65 #[.val (.int p1), .unset, .unset, .unset, .unset] [(.int (9 : Int32)), (.ref b1), (.ref b1)])
  obtain ⟨T20, X20, e20, st20⟩ := getS2 X19 hx hZ hown (host := "") (Or.inl (hw _ (List.mem_of_getElem? (i := 22) rfl))) Via.refl e19 (S_9.ext O19.2) (g := (mkF m 65 #[.val (.int p1), .unset, .unset, .unset, .unset] [(.int (9 : Int32)), (.ref b1), (.ref b1)])) rfl (hb hby at_65)
  refine own_st st20 ?_
  show own_Ends _ _ _ _ _ _ _ T20 (mkF m 68 #[.val (.int p1), .unset, .unset, .unset, .unset] [(.ref r9), (.int (9 : Int32)), (.ref b1), (.ref b1)])
  obtain ⟨T21, h21, X21, e21, W21, V21', st21⟩ := own_fill X20 hx hZ e20 V19 Ov (Ins.self (E_9.ext O19.2)) (j := (9 : Int32)) 9 rfl (by simp) (by decide) (g := (mkF m 68 #[.val (.int p1), .unset, .unset, .unset, .unset] [(.ref r9), (.int (9 : Int32)), (.ref b1), (.ref b1)])) rfl rfl (hb hby at_68)
  have V21 : Arv Z h21 b1 k1 (.object "com/example/mimsy/mimsy/wabe/Operator") (15 : Int32) [(.ref r0), (.ref r1), (.ref r2), (.ref r3), (.ref r4), (.ref r5), (.ref r6), (.ref r7), (.ref r8), (.ref r9), .null, .null, .null, .null, .null] .null := V21'
  have N21 := Fr.snoc X21 N19 gb
  have O21 := O19.wr W21 gb
  refine own_st st21 ?_
  show own_Ends _ _ _ _ _ _ _ T21 (mkF m 69 #[.val (.int p1), .unset, .unset, .unset, .unset] [(.ref b1)])
  refine own_st (fun _ kq => XS.dup X21.here hx rfl (hb hby at_69) rfl rfl kq) ?_
  show own_Ends _ _ _ _ _ _ _ T21 (mkF m 70 #[.val (.int p1), .unset, .unset, .unset, .unset] [(.ref b1), (.ref b1)])
  refine own_st (fun _ kq => XS.bipush X21.here hx rfl (hb hby at_70) kq) ?_
  show own_Ends _ _ _ _ _ _ _ T21 (mkF m 72 #[.val (.int p1), .unset, .unset, .unset, .unset] [(.int (10 : Int32)), (.ref b1), (.ref b1)])
  obtain ⟨T22, X22, e22, st22⟩ := getS2 X21 hx hZ hown (host := "") (Or.inl (hw _ (List.mem_of_getElem? (i := 24) rfl))) Via.refl e21 (S_10.ext O21.2) (g := (mkF m 72 #[.val (.int p1), .unset, .unset, .unset, .unset] [(.int (10 : Int32)), (.ref b1), (.ref b1)])) rfl (hb hby at_72)
  refine own_st st22 ?_
  show own_Ends _ _ _ _ _ _ _ T22 (mkF m 75 #[.val (.int p1), .unset, .unset, .unset, .unset] [(.ref r10), (.int (10 : Int32)), (.ref b1), (.ref b1)])
  obtain ⟨T23, h23, X23, e23, W23, V23', st23⟩ := own_fill X22 hx hZ e22 V21 Ov (Ins.self (E_10.ext O21.2)) (j := (10 : Int32)) 10 rfl (by simp) (by decide) (g := (mkF m 75 #[.val (.int p1), .unset, .unset, .unset, .unset] [(.ref r10), (.int (10 : Int32)), (.ref b1), (.ref b1)])) rfl rfl (hb hby at_75)
  have V23 : Arv Z h23 b1 k1 (.object "com/example/mimsy/mimsy/wabe/Operator") (15 : Int32) [(.ref r0), (.ref r1), (.ref r2), (.ref r3), (.ref r4), (.ref r5), (.ref r6), (.ref r7), (.ref r8), (.ref r9), (.ref r10), .null, .null, .null, .null] .null := V23'
  have N23 := Fr.snoc X23 N21 gb
  have O23 := O21.wr W23 gb
  refine own_st st23 ?_
  show own_Ends _ _ _ _ _ _ _ T23 (mkF m 76 #[.val (.int p1), .unset, .unset, .unset, .unset] [(.ref b1)])
  refine own_st (fun _ kq => XS.dup X23.here hx rfl (hb hby at_76) rfl rfl kq) ?_
  show own_Ends _ _ _ _ _ _ _ T23 (mkF m 77 #[.val (.int p1), .unset, .unset, .unset, .unset] [(.ref b1), (.ref b1)])
  refine own_st (fun _ kq => XS.bipush X23.here hx rfl (hb hby at_77) kq) ?_
  show own_Ends _ _ _ _ _ _ _ T23 (mkF m 79 #[.val (.int p1), .unset, .unset, .unset, .unset] [(.int (11 : Int32)), (.ref b1), (.ref b1)])
  obtain ⟨T24, X24, e24, st24⟩ := getS2 X23 hx hZ hown (host := "") (Or.inl (hw _ (List.mem_of_getElem? (i := 26) rfl))) Via.refl e23 (S_11.ext O23.2) (g := (mkF m 79 #[.val (.int p1), .unset, .unset, .unset, .unset] [(.int (11 : Int32)), (.ref b1), (.ref b1)])) rfl (hb hby at_79)
  refine own_st st24 ?_
  show own_Ends _ _ _ _ _ _ _ T24 (mkF m 82 #[.val (.int p1), .unset, .unset, .unset, .unset] [(.ref r11), (.int (11 : Int32)), (.ref b1), (.ref b1)])
  obtain ⟨T25, h25, X25, e25, W25, V25', st25⟩ := own_fill X24 hx hZ e24 V23 Ov (Ins.self (E_11.ext O23.2)) (j := (11 : Int32)) 11 rfl (by simp) (by decide) (g := (mkF m 82 #[.val (.int p1), .unset, .unset, .unset, .unset] [(.ref r11), (.int (11 : Int32)), (.ref b1), (.ref b1)])) rfl rfl (hb hby at_82)
  have V25 : Arv Z h25 b1 k1 (.object "com/example/mimsy/mimsy/wabe/Operator") (15 : Int32) [(.ref r0), (.ref r1), (.ref r2), (.ref r3), (.ref r4), (.ref r5), (.ref r6), (.ref r7), (.ref r8), (.ref r9), (.ref r10), (.ref r11), .null, .null, .null] .null := V25'
  have N25 := Fr.snoc X25 N23 gb
  have O25 := O23.wr W25 gb
  refine own_st st25 ?_
  show own_Ends _ _ _ _ _ _ _ T25 (mkF m 83 #[.val (.int p1), .unset, .unset, .unset, .unset] [(.ref b1)])
  refine own_st (fun _ kq => XS.dup X25.here hx rfl (hb hby at_83) rfl rfl kq) ?_
  show own_Ends _ _ _ _ _ _ _ T25 (mkF m 84 #[.val (.int p1), .unset, .unset, .unset, .unset] [(.ref b1), (.ref b1)])
  refine own_st (fun _ kq => XS.bipush X25.here hx rfl (hb hby at_84) kq) ?_
  show own_Ends _ _ _ _ _ _ _ T25 (mkF m 86 #[.val (.int p1), .unset, .unset, .unset, .unset] [(.int (12 : Int32)), (.ref b1), (.ref b1)])
  obtain ⟨T26, X26, e26, st26⟩ := getS2 X25 hx hZ hown (host := "") (Or.inl (hw _ (List.mem_of_getElem? (i := 28) rfl))) Via.refl e25 (S_12.ext O25.2) (g := (mkF m 86 #[.val (.int p1), .unset, .unset, .unset, .unset] [(.int (12 : Int32)), (.ref b1), (.ref b1)])) rfl (hb hby at_86)
  refine own_st st26 ?_
  show own_Ends _ _ _ _ _ _ _ T26 (mkF m 89 #[.val (.int p1), .unset, .unset, .unset, .unset] [(.ref r12), (.int (12 : Int32)), (.ref b1), (.ref b1)])
  obtain ⟨T27, h27, X27, e27, W27, V27', st27⟩ := own_fill X26 hx hZ e26 V25 Ov (Ins.self (E_12.ext O25.2)) (j := (12 : Int32)) 12 rfl (by simp) (by decide) (g := (mkF m 89 #[.val (.int p1), .unset, .unset, .unset, .unset] [(.ref r12), (.int (12 : Int32)), (.ref b1), (.ref b1)])) rfl rfl (hb hby at_89)
  have V27 : Arv Z h27 b1 k1 (.object "com/example/mimsy/mimsy/wabe/Operator") (15 : Int32) [(.ref r0), (.ref r1), (.ref r2), (.ref r3), (.ref r4), (.ref r5), (.ref r6), (.ref r7), (.ref r8), (.ref r9), (.ref r10), (.ref r11), (.ref r12), .null, .null] .null := V27'
  have N27 := Fr.snoc X27 N25 gb
  have O27 := O25.wr W27 gb
  refine own_st st27 ?_
  show own_Ends _ _ _ _ _ _ _ T27 (mkF m 90 #[.val (.int p1), .unset, .unset, .unset, .unset] [(.ref b1)])
  refine own_st (fun _ kq => XS.dup X27.here hx rfl (hb hby at_90) rfl rfl kq) ?_
  show own_Ends _ _ _ _ _ _ _ T27 (mkF m 91 #[.val (.int p1), .unset, .unset, .unset, .unset] [(.ref b1), (.ref b1)])
  refine own_st (fun _ kq => XS.bipush X27.here hx rfl (hb hby at_91) kq) ?_
  show own_Ends _ _ _ _ _ _ _ T27 (mkF m 93 #[.val (.int p1), .unset, .unset, .unset, .unset] [(.int (13 : Int32)), (.ref b1), (.ref b1)])
  obtain ⟨T28, X28, e28, st28⟩ := getS2 X27 hx hZ hown (host := "") (Or.inl (hw _ (List.mem_of_getElem? (i := 30) rfl))) Via.refl e27 (S_13.ext O27.2) (g := (mkF m 93 #[.val (.int p1), .unset, .unset, .unset, .unset] [(.int (13 : Int32)), (.ref b1), (.ref b1)])) rfl (hb hby at_93)
  refine own_st st28 ?_
  show own_Ends _ _ _ _ _ _ _ T28 (mkF m 96 #[.val (.int p1), .unset, .unset, .unset, .unset] [(.ref r13), (.int (13 : Int32)), (.ref b1), (.ref b1)])
  obtain ⟨T29, h29, X29, e29, W29, V29', st29⟩ := own_fill X28 hx hZ e28 V27 Ov (Ins.self (E_13.ext O27.2)) (j := (13 : Int32)) 13 rfl (by simp) (by decide) (g := (mkF m 96 #[.val (.int p1), .unset, .unset, .unset, .unset] [(.ref r13), (.int (13 : Int32)), (.ref b1), (.ref b1)])) rfl rfl (hb hby at_96)
  have V29 : Arv Z h29 b1 k1 (.object "com/example/mimsy/mimsy/wabe/Operator") (15 : Int32) [(.ref r0), (.ref r1), (.ref r2), (.ref r3), (.ref r4), (.ref r5), (.ref r6), (.ref r7), (.ref r8), (.ref r9), (.ref r10), (.ref r11), (.ref r12), (.ref r13), .null] .null := V29'
  have N29 := Fr.snoc X29 N27 gb
  have O29 := O27.wr W29 gb
  refine own_st st29 ?_
  show own_Ends _ _ _ _ _ _ _ T29 (mkF m 97 #[.val (.int p1), .unset, .unset, .unset, .unset] [(.ref b1)])
  refine own_st (fun _ kq => XS.dup X29.here hx rfl (hb hby at_97) rfl rfl kq) ?_
  show own_Ends _ _ _ _ _ _ _ T29 (mkF m 98 #[.val (.int p1), .unset, .unset, .unset, .unset] [(.ref b1), (.ref b1)])
  refine own_st (fun _ kq => XS.bipush X29.here hx rfl (hb hby at_98) kq) ?_
  show own_Ends _ _ _ _ _ _ _ T29 (mkF m 100 #[.val (.int p1), .unset, .unset, .unset, .unset] [(.int (14 : Int32)), (.ref b1), (.ref b1)])
  obtain ⟨T30, X30, e30, st30⟩ := getS2 X29 hx hZ hown (host := "") (Or.inl (hw _ (List.mem_of_getElem? (i := 32) rfl))) Via.refl e29 (S_14.ext O29.2) (g := (mkF m 100 #[.val (.int p1), .unset, .unset, .unset, .unset] [(.int (14 : Int32)), (.ref b1), (.ref b1)])) rfl (hb hby at_100)
  refine own_st st30 ?_
  show own_Ends _ _ _ _ _ _ _ T30 (mkF m 103 #[.val (.int p1), .unset, .unset, .unset, .unset] [(.ref r14), (.int (14 : Int32)), (.ref b1), (.ref b1)])
  obtain ⟨T31, h31, X31, e31, W31, V31', st31⟩ := own_fill X30 hx hZ e30 V29 Ov (Ins.self (E_14.ext O29.2)) (j := (14 : Int32)) 14 rfl (by simp) (by decide) (g := (mkF m 103 #[.val (.int p1), .unset, .unset, .unset, .unset] [(.ref r14), (.int (14 : Int32)), (.ref b1), (.ref b1)])) rfl rfl (hb hby at_103)
  have V31 : Arv Z h31 b1 k1 (.object "com/example/mimsy/mimsy/wabe/Operator") (15 : Int32) [(.ref r0), (.ref r1), (.ref r2), (.ref r3), (.ref r4), (.ref r5), (.ref r6), (.ref r7), (.ref r8), (.ref r9), (.ref r10), (.ref r11), (.ref r12), (.ref r13), (.ref r14)] .null := V31'
  have N31 := Fr.snoc X31 N29 gb
  have O31 := O29.wr W31 gb
  refine own_st st31 ?_
  show own_Ends _ _ _ _ _ _ _ T31 (mkF m 104 #[.val (.int p1), .unset, .unset, .unset, .unset] [(.ref b1)])
  refine own_st (fun _ kq => XS.astoreN X31.here hx rfl (hb hby at_104) rfl rfl (l' := #[.val (.int p1), .val (.ref b1), .unset, .unset, .unset]) rfl kq) ?_
  show own_Ends _ _ _ _ _ _ _ T31 (mkF m 105 #[.val (.int p1), .val (.ref b1), .unset, .unset, .unset] [])
  refine own_st (fun _ kq => XS.aloadN X31.here hx rfl (hb hby at_105) rfl rfl kq) ?_
  show own_Ends _ _ _ _ _ _ _ T31 (mkF m 106 #[.val (.int p1), .val (.ref b1), .unset, .unset, .unset] [(.ref b1)])
  refine own_st (fun _ kq => XS.iloadN X31.here hx rfl (hb hby at_106) rfl kq) ?_
  show own_Ends _ _ _ _ _ _ _ T31 (mkF m 107 #[.val (.int p1), .val (.ref b1), .unset, .unset, .unset] [(.int p1), (.ref b1)])
  refine own_st (X31.ldcInt hx hown (mvT hZ (hw _ (List.mem_of_getElem? (i := 34) rfl))) (g := (mkF m 107 #[.val (.int p1), .val (.ref b1), .unset, .unset, .unset] [(.int p1), (.ref b1)])) rfl (hb hby at_107)) ?_
  show own_Ends _ _ _ _ _ _ _ T31 (mkF m 109 #[.val (.int p1), .val (.ref b1), .unset, .unset, .unset] [(.int (2147483647 : Int32)), (.int p1), (.ref b1)])
  refine own_st (fun _ kq => XS.iand X31.here hx rfl (hb hby at_109) rfl kq) ?_
  show own_Ends _ _ _ _ _ _ _ T31 (mkF m 110 #[.val (.int p1), .val (.ref b1), .unset, .unset, .unset] [(.int (p1 &&& (2147483647 : Int32))), (.ref b1)])
  refine own_st (fun _ kq => XS.bipush X31.here hx rfl (hb hby at_110) kq) ?_
  show own_Ends _ _ _ _ _ _ _ T31 (mkF m 112 #[.val (.int p1), .val (.ref b1), .unset, .unset, .unset] [(.int (15 : Int32)), (.int (p1 &&& (2147483647 : Int32))), (.ref b1)])
  refine own_st (fun _ kq => iremM (g := (mkF m 112 #[.val (.int p1), .val (.ref b1), .unset, .unset, .unset] [(.int (15 : Int32)), (.int (p1 &&& (2147483647 : Int32))), (.ref b1)])) X31 hx rfl (hb hby at_112) rfl (by decide) kq) ?_
  show own_Ends _ _ _ _ _ _ _ T31 (mkF m 113 #[.val (.int p1), .val (.ref b1), .unset, .unset, .unset] [(.int ((p1 &&& (2147483647 : Int32)) % (15 : Int32))), (.ref b1)])
  obtain ⟨cl, Ar, -, Sz, Mz, Hv, -⟩ := V31
  rcases own_idx p1 with ej | ej | ej | ej | ej | ej | ej | ej | ej | ej | ej | ej | ej | ej | ej
  · rw [ej]
    show own_Ends _ _ _ _ _ _ _ T31 (mkF m 113 #[.val (.int p1), .val (.ref b1), .unset, .unset, .unset] [(.int (0 : Int32)), (.ref b1)])
    have hin := inb_of (j := (0 : Int32)) Sz ⟨by decide, by decide⟩
    refine own_st (fun _ kq => X31.aaload hx (j := (0 : Int32)) (v := (.ref r0)) (by rw [e31]; exact Ar.1) (State.isArrayOf_alike hZ.alike Ar.2.1) rfl Ar.2.2 hin (Hv.at hin rfl) (g := (mkF m 113 #[.val (.int p1), .val (.ref b1), .unset, .unset, .unset] [(.int (0 : Int32)), (.ref b1)])) rfl rfl (hb hby at_113) _ kq) ?_
    show own_Ends _ _ _ _ _ _ _ T31 (mkF m 114 #[.val (.int p1), .val (.ref b1), .unset, .unset, .unset] [(.ref r0)])
    refine own_st (fun _ kq => XS.astoreN X31.here hx rfl (hb hby at_114) rfl rfl (l' := #[.val (.int p1), .val (.ref b1), .val (.ref r0), .unset, .unset]) rfl kq) ?_
    show own_Ends _ _ _ _ _ _ _ T31 (mkF m 115 #[.val (.int p1), .val (.ref b1), .val (.ref r0), .unset, .unset] [])
    refine own_st (fun _ kq => XS.aloadN X31.here hx rfl (hb hby at_115) rfl rfl kq) ?_
    show own_Ends _ _ _ _ _ _ _ T31 (mkF m 116 #[.val (.int p1), .val (.ref b1), .val (.ref r0), .unset, .unset] [(.ref r0)])
    obtain ⟨T32, X32, e32, st32⟩ := getF X31 hx hZ hown (host := "") (Or.inl (hw _ (List.mem_of_getElem? (i := 35) rfl))) Via.refl e31 (F_0_opcode.ext O31.2) (g := (mkF m 116 #[.val (.int p1), .val (.ref b1), .val (.ref r0), .unset, .unset] [(.ref r0)])) rfl rfl (hb hby at_116)
    refine own_st st32 ?_
    show own_Ends _ _ _ _ _ _ _ T32 (mkF m 119 #[.val (.int p1), .val (.ref b1), .val (.ref r0), .unset, .unset] [(.int (12 : Int32))])
    refine own_st (fun _ kq => XS.bipush X32.here hx rfl (hb hby at_119) kq) ?_
    show own_Ends _ _ _ _ _ _ _ T32 (mkF m 121 #[.val (.int p1), .val (.ref b1), .val (.ref r0), .unset, .unset] [(.int (7 : Int32)), (.int (12 : Int32))])
    refine own_st (fun _ kq => XS.icmpNo X32.here hx rfl (hb hby at_121) rfl (feq (by decide : ¬ ((12 : Int32) = (7 : Int32)))).1 kq) ?_
    show own_Ends _ _ _ _ _ _ _ T32 (mkF m 124 #[.val (.int p1), .val (.ref b1), .val (.ref r0), .unset, .unset] [])
    refine own_st (fun _ kq => XS.aloadN X32.here hx rfl (hb hby at_124) rfl rfl kq) ?_
    show own_Ends _ _ _ _ _ _ _ T32 (mkF m 125 #[.val (.int p1), .val (.ref b1), .val (.ref r0), .unset, .unset] [(.ref r0)])
    obtain ⟨T33, X33, e33, st33⟩ := getF X32 hx hZ hown (host := "") (Or.inl (hw _ (List.mem_of_getElem? (i := 35) rfl))) Via.refl e32 (F_0_opcode.ext O31.2) (g := (mkF m 125 #[.val (.int p1), .val (.ref b1), .val (.ref r0), .unset, .unset] [(.ref r0)])) rfl rfl (hb hby at_125)
    refine own_st st33 ?_
    show own_Ends _ _ _ _ _ _ _ T33 (mkF m 128 #[.val (.int p1), .val (.ref b1), .val (.ref r0), .unset, .unset] [(.int (12 : Int32))])
    refine own_st (fun _ kq => XS.bipush X33.here hx rfl (hb hby at_128) kq) ?_
    show own_Ends _ _ _ _ _ _ _ T33 (mkF m 130 #[.val (.int p1), .val (.ref b1), .val (.ref r0), .unset, .unset] [(.int (8 : Int32)), (.int (12 : Int32))])
    refine own_st (fun _ kq => XS.icmpYes X33.here hx rfl (pc0 := 130) (pc' := 137) rfl (hb hby at_130) rfl (feq (by decide : ¬ ((12 : Int32) = (8 : Int32)))).2 (by decide) (by decide) kq) ?_
    show own_Ends _ _ _ _ _ _ _ T33 (mkF m 137 #[.val (.int p1), .val (.ref b1), .val (.ref r0), .unset, .unset] [])
    refine own_st (fun _ kq => XS.iconst X33.here hx rfl (hb hby at_137) kq) ?_
    show own_Ends _ _ _ _ _ _ _ T33 (mkF m 138 #[.val (.int p1), .val (.ref b1), .val (.ref r0), .unset, .unset] [(.int (0 : Int32))])
    refine own_st (fun _ kq => XS.istoreN X33.here hx rfl (hb hby at_138) rfl (l' := #[.val (.int p1), .val (.ref b1), .val (.ref r0), .val (.int (0 : Int32)), .unset]) rfl kq) ?_
    show own_Ends _ _ _ _ _ _ _ T33 (mkF m 139 #[.val (.int p1), .val (.ref b1), .val (.ref r0), .val (.int (0 : Int32)), .unset] [])
    refine own_st (fun _ kq => XS.aloadN X33.here hx rfl (hb hby at_139) rfl rfl kq) ?_
    show own_Ends _ _ _ _ _ _ _ T33 (mkF m 140 #[.val (.int p1), .val (.ref b1), .val (.ref r0), .val (.int (0 : Int32)), .unset] [(.ref r0)])
    obtain ⟨cq34, kq34, q34a, q34b, q34c⟩ := isOf hZ e33 (E_0.ext O31.2)
    obtain ⟨_, _, ⟨T34, L34, k34, n34⟩, -, X34, ⟨Lc34, hQ34, l34, y34, z34⟩, st34⟩ := X33.virtualBack hx (y := (⟨"com/example/mimsy/mimsy/wabe/Operator", "shortCircuits", "()Z"⟩ : MethodName)) (z := (⟨"com/example/mimsy/mimsy/wabe/Operator", "shortCircuits", "()Z"⟩ : MethodName)) hown (mvT hZ (hw _ (List.mem_of_getElem? (i := 37) rfl))) (mvT hZ (hw _ (List.mem_of_getElem? (i := 38) rfl))) (notFace_of_selects (args := #[]) (mvT hZ (hw _ (List.mem_of_getElem? (i := 40) rfl)))) (mvT hZ (hw _ (List.mem_of_getElem? (i := 40) rfl))) (mvT hZ (hw _ (List.mem_of_getElem? (i := 39) rfl))) (by decide) (backOf (W := 0) (rm_sc l Z a0 hw [] r0 (0 : Int32) r0 r1 r2 r3 r4 r5 r6 r7 r8 r9 r10 r11 r12 r13 r14 h31 n0 O31 (if_neg (fun q => q.elim (F_0_opcode.ne F_5_opcode (by decide)) (F_0_opcode.ne F_6_opcode (by decide)))) G) hZ (hw _ (List.mem_of_getElem? (i := 41) rfl)) (hw _ (List.mem_of_getElem? (i := 3) rfl)) (by decide) (by decide)) q34a q34c (g := (mkF m 140 #[.val (.int p1), .val (.ref b1), .val (.ref r0), .val (.int (0 : Int32)), .unset] [(.ref r0)])) rfl (by rw [hml]; rfl) (Steps.refl _) (argsL := []) (rest := []) (lenOf pd_0 rfl) rfl (by show 2 * 0 + _ ≤ _; exact Nat.le_of_eq rfl) (hb hby at_140) (fun _ _ => ⟨rfl, e33, (by decide : 1 + 0 ≤ _), (by decide : 15 + 0 ≤ _)⟩)
    dsimp only [Pt.U, Pt.locs, Pt.cells, Pt.slots] at X34 l34 y34 z34 st34 hQ34
    subst l34 y34 z34
    obtain ⟨rfl, N34q, e34⟩ := hQ34
    have N34 := Fr.app N31 N34q
    refine own_tr st34 ?_
    show own_Ends _ _ _ _ _ _ _ T34 (mkF m 143 #[.val (.int p1), .val (.ref b1), .val (.ref r0), .val (.int (0 : Int32)), .unset] [(.int (0 : Int32))])
    refine own_st (fun _ kq => XS.istore X34.here hx rfl (hb hby at_143) rfl (l' := #[.val (.int p1), .val (.ref b1), .val (.ref r0), .val (.int (0 : Int32)), .val (.int (0 : Int32))]) rfl kq) ?_
    show own_Ends _ _ _ _ _ _ _ T34 (mkF m 145 #[.val (.int p1), .val (.ref b1), .val (.ref r0), .val (.int (0 : Int32)), .val (.int (0 : Int32))] [])
    refine own_st (fun _ kq => XS.iload X34.here hx rfl (hb hby at_145) rfl kq) ?_
    show own_Ends _ _ _ _ _ _ _ T34 (mkF m 147 #[.val (.int p1), .val (.ref b1), .val (.ref r0), .val (.int (0 : Int32)), .val (.int (0 : Int32))] [(.int (0 : Int32))])
    refine own_st (fun _ kq => XS.iloadN X34.here hx rfl (hb hby at_147) rfl kq) ?_
    show own_Ends _ _ _ _ _ _ _ T34 (mkF m 148 #[.val (.int p1), .val (.ref b1), .val (.ref r0), .val (.int (0 : Int32)), .val (.int (0 : Int32))] [(.int (0 : Int32)), (.int (0 : Int32))])
    refine own_st (fun _ kq => XS.icmpNo X34.here hx rfl (hb hby at_148) rfl (teq (by decide : (0 : Int32) = (0 : Int32))).2 kq) ?_
    show own_Ends _ _ _ _ _ _ _ T34 (mkF m 151 #[.val (.int p1), .val (.ref b1), .val (.ref r0), .val (.int (0 : Int32)), .val (.int (0 : Int32))] [])
    refine own_st (fun _ kq => XS.iload X34.here hx rfl (hb hby at_151) rfl kq) ?_
    show own_Ends _ _ _ _ _ _ _ T34 (mkF m 153 #[.val (.int p1), .val (.ref b1), .val (.ref r0), .val (.int (0 : Int32)), .val (.int (0 : Int32))] [(.int (0 : Int32))])
    refine own_st (fun _ kq => XS.ifYes X34.here hx rfl (pc0 := 153) (pc' := 164) rfl (hb hby at_153) rfl ((if0 _ _).trans (teq (by decide : (0 : Int32) = (0 : Int32))).1) (by decide) (by decide) kq) ?_
    show own_Ends _ _ _ _ _ _ _ T34 (mkF m 164 #[.val (.int p1), .val (.ref b1), .val (.ref r0), .val (.int (0 : Int32)), .val (.int (0 : Int32))] [])
    refine own_st (fun _ kq => XS.iconst X34.here hx rfl (hb hby at_164) kq) ?_
    show own_Ends _ _ _ _ _ _ _ T34 (mkF m 165 #[.val (.int p1), .val (.ref b1), .val (.ref r0), .val (.int (0 : Int32)), .val (.int (0 : Int32))] [(.int (1 : Int32))])
    refine own_st (fun _ kq => XS.goto X34.here hx rfl (pc0 := 165) (pc' := 169) rfl (hb hby at_165) (by decide) (by decide) kq) ?_
    show own_Ends _ _ _ _ _ _ _ T34 (mkF m 169 #[.val (.int p1), .val (.ref b1), .val (.ref r0), .val (.int (0 : Int32)), .val (.int (0 : Int32))] [(.int (1 : Int32))])
    refine own_retN X34 hx (t := .boolean) Bd.returns (by simp) (hb hby at_169) hlk (by decide) (by decide) (w := (1 : Int32)) (by decide) ?_
    show Q_rm_law Z p1 r0 r1 r2 r3 r4 r5 r6 r7 r8 r9 r10 r11 r12 r13 r14 h0 n0 _ T34.heap _
    rw [e34]
    exact ⟨rfl, N34⟩
  · rw [ej]
    show own_Ends _ _ _ _ _ _ _ T31 (mkF m 113 #[.val (.int p1), .val (.ref b1), .unset, .unset, .unset] [(.int (1 : Int32)), (.ref b1)])
    have hin := inb_of (j := (1 : Int32)) Sz ⟨by decide, by decide⟩
    refine own_st (fun _ kq => X31.aaload hx (j := (1 : Int32)) (v := (.ref r1)) (by rw [e31]; exact Ar.1) (State.isArrayOf_alike hZ.alike Ar.2.1) rfl Ar.2.2 hin (Hv.at hin rfl) (g := (mkF m 113 #[.val (.int p1), .val (.ref b1), .unset, .unset, .unset] [(.int (1 : Int32)), (.ref b1)])) rfl rfl (hb hby at_113) _ kq) ?_
    show own_Ends _ _ _ _ _ _ _ T31 (mkF m 114 #[.val (.int p1), .val (.ref b1), .unset, .unset, .unset] [(.ref r1)])
    refine own_st (fun _ kq => XS.astoreN X31.here hx rfl (hb hby at_114) rfl rfl (l' := #[.val (.int p1), .val (.ref b1), .val (.ref r1), .unset, .unset]) rfl kq) ?_
    show own_Ends _ _ _ _ _ _ _ T31 (mkF m 115 #[.val (.int p1), .val (.ref b1), .val (.ref r1), .unset, .unset] [])
    refine own_st (fun _ kq => XS.aloadN X31.here hx rfl (hb hby at_115) rfl rfl kq) ?_
    show own_Ends _ _ _ _ _ _ _ T31 (mkF m 116 #[.val (.int p1), .val (.ref b1), .val (.ref r1), .unset, .unset] [(.ref r1)])
    obtain ⟨T35, X35, e35, st35⟩ := getF X31 hx hZ hown (host := "") (Or.inl (hw _ (List.mem_of_getElem? (i := 35) rfl))) Via.refl e31 (F_1_opcode.ext O31.2) (g := (mkF m 116 #[.val (.int p1), .val (.ref b1), .val (.ref r1), .unset, .unset] [(.ref r1)])) rfl rfl (hb hby at_116)
    refine own_st st35 ?_
    show own_Ends _ _ _ _ _ _ _ T35 (mkF m 119 #[.val (.int p1), .val (.ref b1), .val (.ref r1), .unset, .unset] [(.int (13 : Int32))])
    refine own_st (fun _ kq => XS.bipush X35.here hx rfl (hb hby at_119) kq) ?_
    show own_Ends _ _ _ _ _ _ _ T35 (mkF m 121 #[.val (.int p1), .val (.ref b1), .val (.ref r1), .unset, .unset] [(.int (7 : Int32)), (.int (13 : Int32))])
    refine own_st (fun _ kq => XS.icmpNo X35.here hx rfl (hb hby at_121) rfl (feq (by decide : ¬ ((13 : Int32) = (7 : Int32)))).1 kq) ?_
    show own_Ends _ _ _ _ _ _ _ T35 (mkF m 124 #[.val (.int p1), .val (.ref b1), .val (.ref r1), .unset, .unset] [])
    refine own_st (fun _ kq => XS.aloadN X35.here hx rfl (hb hby at_124) rfl rfl kq) ?_
    show own_Ends _ _ _ _ _ _ _ T35 (mkF m 125 #[.val (.int p1), .val (.ref b1), .val (.ref r1), .unset, .unset] [(.ref r1)])
    obtain ⟨T36, X36, e36, st36⟩ := getF X35 hx hZ hown (host := "") (Or.inl (hw _ (List.mem_of_getElem? (i := 35) rfl))) Via.refl e35 (F_1_opcode.ext O31.2) (g := (mkF m 125 #[.val (.int p1), .val (.ref b1), .val (.ref r1), .unset, .unset] [(.ref r1)])) rfl rfl (hb hby at_125)
    refine own_st st36 ?_
    show own_Ends _ _ _ _ _ _ _ T36 (mkF m 128 #[.val (.int p1), .val (.ref b1), .val (.ref r1), .unset, .unset] [(.int (13 : Int32))])
    refine own_st (fun _ kq => XS.bipush X36.here hx rfl (hb hby at_128) kq) ?_
    show own_Ends _ _ _ _ _ _ _ T36 (mkF m 130 #[.val (.int p1), .val (.ref b1), .val (.ref r1), .unset, .unset] [(.int (8 : Int32)), (.int (13 : Int32))])
    refine own_st (fun _ kq => XS.icmpYes X36.here hx rfl (pc0 := 130) (pc' := 137) rfl (hb hby at_130) rfl (feq (by decide : ¬ ((13 : Int32) = (8 : Int32)))).2 (by decide) (by decide) kq) ?_
    show own_Ends _ _ _ _ _ _ _ T36 (mkF m 137 #[.val (.int p1), .val (.ref b1), .val (.ref r1), .unset, .unset] [])
    refine own_st (fun _ kq => XS.iconst X36.here hx rfl (hb hby at_137) kq) ?_
    show own_Ends _ _ _ _ _ _ _ T36 (mkF m 138 #[.val (.int p1), .val (.ref b1), .val (.ref r1), .unset, .unset] [(.int (0 : Int32))])
    refine own_st (fun _ kq => XS.istoreN X36.here hx rfl (hb hby at_138) rfl (l' := #[.val (.int p1), .val (.ref b1), .val (.ref r1), .val (.int (0 : Int32)), .unset]) rfl kq) ?_
    show own_Ends _ _ _ _ _ _ _ T36 (mkF m 139 #[.val (.int p1), .val (.ref b1), .val (.ref r1), .val (.int (0 : Int32)), .unset] [])
    refine own_st (fun _ kq => XS.aloadN X36.here hx rfl (hb hby at_139) rfl rfl kq) ?_
    show own_Ends _ _ _ _ _ _ _ T36 (mkF m 140 #[.val (.int p1), .val (.ref b1), .val (.ref r1), .val (.int (0 : Int32)), .unset] [(.ref r1)])
    obtain ⟨cq37, kq37, q37a, q37b, q37c⟩ := isOf hZ e36 (E_1.ext O31.2)
    obtain ⟨_, _, ⟨T37, L37, k37, n37⟩, -, X37, ⟨Lc37, hQ37, l37, y37, z37⟩, st37⟩ := X36.virtualBack hx (y := (⟨"com/example/mimsy/mimsy/wabe/Operator", "shortCircuits", "()Z"⟩ : MethodName)) (z := (⟨"com/example/mimsy/mimsy/wabe/Operator", "shortCircuits", "()Z"⟩ : MethodName)) hown (mvT hZ (hw _ (List.mem_of_getElem? (i := 37) rfl))) (mvT hZ (hw _ (List.mem_of_getElem? (i := 38) rfl))) (notFace_of_selects (args := #[]) (mvT hZ (hw _ (List.mem_of_getElem? (i := 40) rfl)))) (mvT hZ (hw _ (List.mem_of_getElem? (i := 40) rfl))) (mvT hZ (hw _ (List.mem_of_getElem? (i := 39) rfl))) (by decide) (backOf (W := 0) (rm_sc l Z a0 hw [] r1 (0 : Int32) r0 r1 r2 r3 r4 r5 r6 r7 r8 r9 r10 r11 r12 r13 r14 h31 n0 O31 (if_neg (fun q => q.elim (F_1_opcode.ne F_5_opcode (by decide)) (F_1_opcode.ne F_6_opcode (by decide)))) G) hZ (hw _ (List.mem_of_getElem? (i := 41) rfl)) (hw _ (List.mem_of_getElem? (i := 3) rfl)) (by decide) (by decide)) q37a q37c (g := (mkF m 140 #[.val (.int p1), .val (.ref b1), .val (.ref r1), .val (.int (0 : Int32)), .unset] [(.ref r1)])) rfl (by rw [hml]; rfl) (Steps.refl _) (argsL := []) (rest := []) (lenOf pd_0 rfl) rfl (by show 2 * 0 + _ ≤ _; exact Nat.le_of_eq rfl) (hb hby at_140) (fun _ _ => ⟨rfl, e36, (by decide : 1 + 0 ≤ _), (by decide : 15 + 0 ≤ _)⟩)
    dsimp only [Pt.U, Pt.locs, Pt.cells, Pt.slots] at X37 l37 y37 z37 st37 hQ37
    subst l37 y37 z37
    obtain ⟨rfl, N37q, e37⟩ := hQ37
    have N37 := Fr.app N31 N37q
    refine own_tr st37 ?_
    show own_Ends _ _ _ _ _ _ _ T37 (mkF m 143 #[.val (.int p1), .val (.ref b1), .val (.ref r1), .val (.int (0 : Int32)), .unset] [(.int (0 : Int32))])
    refine own_st (fun _ kq => XS.istore X37.here hx rfl (hb hby at_143) rfl (l' := #[.val (.int p1), .val (.ref b1), .val (.ref r1), .val (.int (0 : Int32)), .val (.int (0 : Int32))]) rfl kq) ?_
    show own_Ends _ _ _ _ _ _ _ T37 (mkF m 145 #[.val (.int p1), .val (.ref b1), .val (.ref r1), .val (.int (0 : Int32)), .val (.int (0 : Int32))] [])
    refine own_st (fun _ kq => XS.iload X37.here hx rfl (hb hby at_145) rfl kq) ?_
    show own_Ends _ _ _ _ _ _ _ T37 (mkF m 147 #[.val (.int p1), .val (.ref b1), .val (.ref r1), .val (.int (0 : Int32)), .val (.int (0 : Int32))] [(.int (0 : Int32))])
    refine own_st (fun _ kq => XS.iloadN X37.here hx rfl (hb hby at_147) rfl kq) ?_
    show own_Ends _ _ _ _ _ _ _ T37 (mkF m 148 #[.val (.int p1), .val (.ref b1), .val (.ref r1), .val (.int (0 : Int32)), .val (.int (0 : Int32))] [(.int (0 : Int32)), (.int (0 : Int32))])
    refine own_st (fun _ kq => XS.icmpNo X37.here hx rfl (hb hby at_148) rfl (teq (by decide : (0 : Int32) = (0 : Int32))).2 kq) ?_
    show own_Ends _ _ _ _ _ _ _ T37 (mkF m 151 #[.val (.int p1), .val (.ref b1), .val (.ref r1), .val (.int (0 : Int32)), .val (.int (0 : Int32))] [])
    refine own_st (fun _ kq => XS.iload X37.here hx rfl (hb hby at_151) rfl kq) ?_
    show own_Ends _ _ _ _ _ _ _ T37 (mkF m 153 #[.val (.int p1), .val (.ref b1), .val (.ref r1), .val (.int (0 : Int32)), .val (.int (0 : Int32))] [(.int (0 : Int32))])
    refine own_st (fun _ kq => XS.ifYes X37.here hx rfl (pc0 := 153) (pc' := 164) rfl (hb hby at_153) rfl ((if0 _ _).trans (teq (by decide : (0 : Int32) = (0 : Int32))).1) (by decide) (by decide) kq) ?_
    show own_Ends _ _ _ _ _ _ _ T37 (mkF m 164 #[.val (.int p1), .val (.ref b1), .val (.ref r1), .val (.int (0 : Int32)), .val (.int (0 : Int32))] [])
    refine own_st (fun _ kq => XS.iconst X37.here hx rfl (hb hby at_164) kq) ?_
    show own_Ends _ _ _ _ _ _ _ T37 (mkF m 165 #[.val (.int p1), .val (.ref b1), .val (.ref r1), .val (.int (0 : Int32)), .val (.int (0 : Int32))] [(.int (1 : Int32))])
    refine own_st (fun _ kq => XS.goto X37.here hx rfl (pc0 := 165) (pc' := 169) rfl (hb hby at_165) (by decide) (by decide) kq) ?_
    show own_Ends _ _ _ _ _ _ _ T37 (mkF m 169 #[.val (.int p1), .val (.ref b1), .val (.ref r1), .val (.int (0 : Int32)), .val (.int (0 : Int32))] [(.int (1 : Int32))])
    refine own_retN X37 hx (t := .boolean) Bd.returns (by simp) (hb hby at_169) hlk (by decide) (by decide) (w := (1 : Int32)) (by decide) ?_
    show Q_rm_law Z p1 r0 r1 r2 r3 r4 r5 r6 r7 r8 r9 r10 r11 r12 r13 r14 h0 n0 _ T37.heap _
    rw [e37]
    exact ⟨rfl, N37⟩
  · rw [ej]
    show own_Ends _ _ _ _ _ _ _ T31 (mkF m 113 #[.val (.int p1), .val (.ref b1), .unset, .unset, .unset] [(.int (2 : Int32)), (.ref b1)])
    have hin := inb_of (j := (2 : Int32)) Sz ⟨by decide, by decide⟩
    refine own_st (fun _ kq => X31.aaload hx (j := (2 : Int32)) (v := (.ref r2)) (by rw [e31]; exact Ar.1) (State.isArrayOf_alike hZ.alike Ar.2.1) rfl Ar.2.2 hin (Hv.at hin rfl) (g := (mkF m 113 #[.val (.int p1), .val (.ref b1), .unset, .unset, .unset] [(.int (2 : Int32)), (.ref b1)])) rfl rfl (hb hby at_113) _ kq) ?_
    show own_Ends _ _ _ _ _ _ _ T31 (mkF m 114 #[.val (.int p1), .val (.ref b1), .unset, .unset, .unset] [(.ref r2)])
    refine own_st (fun _ kq => XS.astoreN X31.here hx rfl (hb hby at_114) rfl rfl (l' := #[.val (.int p1), .val (.ref b1), .val (.ref r2), .unset, .unset]) rfl kq) ?_
    show own_Ends _ _ _ _ _ _ _ T31 (mkF m 115 #[.val (.int p1), .val (.ref b1), .val (.ref r2), .unset, .unset] [])
    refine own_st (fun _ kq => XS.aloadN X31.here hx rfl (hb hby at_115) rfl rfl kq) ?_
    show own_Ends _ _ _ _ _ _ _ T31 (mkF m 116 #[.val (.int p1), .val (.ref b1), .val (.ref r2), .unset, .unset] [(.ref r2)])
    obtain ⟨T38, X38, e38, st38⟩ := getF X31 hx hZ hown (host := "") (Or.inl (hw _ (List.mem_of_getElem? (i := 35) rfl))) Via.refl e31 (F_2_opcode.ext O31.2) (g := (mkF m 116 #[.val (.int p1), .val (.ref b1), .val (.ref r2), .unset, .unset] [(.ref r2)])) rfl rfl (hb hby at_116)
    refine own_st st38 ?_
    show own_Ends _ _ _ _ _ _ _ T38 (mkF m 119 #[.val (.int p1), .val (.ref b1), .val (.ref r2), .unset, .unset] [(.int (14 : Int32))])
    refine own_st (fun _ kq => XS.bipush X38.here hx rfl (hb hby at_119) kq) ?_
    show own_Ends _ _ _ _ _ _ _ T38 (mkF m 121 #[.val (.int p1), .val (.ref b1), .val (.ref r2), .unset, .unset] [(.int (7 : Int32)), (.int (14 : Int32))])
    refine own_st (fun _ kq => XS.icmpNo X38.here hx rfl (hb hby at_121) rfl (feq (by decide : ¬ ((14 : Int32) = (7 : Int32)))).1 kq) ?_
    show own_Ends _ _ _ _ _ _ _ T38 (mkF m 124 #[.val (.int p1), .val (.ref b1), .val (.ref r2), .unset, .unset] [])
    refine own_st (fun _ kq => XS.aloadN X38.here hx rfl (hb hby at_124) rfl rfl kq) ?_
    show own_Ends _ _ _ _ _ _ _ T38 (mkF m 125 #[.val (.int p1), .val (.ref b1), .val (.ref r2), .unset, .unset] [(.ref r2)])
    obtain ⟨T39, X39, e39, st39⟩ := getF X38 hx hZ hown (host := "") (Or.inl (hw _ (List.mem_of_getElem? (i := 35) rfl))) Via.refl e38 (F_2_opcode.ext O31.2) (g := (mkF m 125 #[.val (.int p1), .val (.ref b1), .val (.ref r2), .unset, .unset] [(.ref r2)])) rfl rfl (hb hby at_125)
    refine own_st st39 ?_
    show own_Ends _ _ _ _ _ _ _ T39 (mkF m 128 #[.val (.int p1), .val (.ref b1), .val (.ref r2), .unset, .unset] [(.int (14 : Int32))])
    refine own_st (fun _ kq => XS.bipush X39.here hx rfl (hb hby at_128) kq) ?_
    show own_Ends _ _ _ _ _ _ _ T39 (mkF m 130 #[.val (.int p1), .val (.ref b1), .val (.ref r2), .unset, .unset] [(.int (8 : Int32)), (.int (14 : Int32))])
    refine own_st (fun _ kq => XS.icmpYes X39.here hx rfl (pc0 := 130) (pc' := 137) rfl (hb hby at_130) rfl (feq (by decide : ¬ ((14 : Int32) = (8 : Int32)))).2 (by decide) (by decide) kq) ?_
    show own_Ends _ _ _ _ _ _ _ T39 (mkF m 137 #[.val (.int p1), .val (.ref b1), .val (.ref r2), .unset, .unset] [])
    refine own_st (fun _ kq => XS.iconst X39.here hx rfl (hb hby at_137) kq) ?_
    show own_Ends _ _ _ _ _ _ _ T39 (mkF m 138 #[.val (.int p1), .val (.ref b1), .val (.ref r2), .unset, .unset] [(.int (0 : Int32))])
    refine own_st (fun _ kq => XS.istoreN X39.here hx rfl (hb hby at_138) rfl (l' := #[.val (.int p1), .val (.ref b1), .val (.ref r2), .val (.int (0 : Int32)), .unset]) rfl kq) ?_
    show own_Ends _ _ _ _ _ _ _ T39 (mkF m 139 #[.val (.int p1), .val (.ref b1), .val (.ref r2), .val (.int (0 : Int32)), .unset] [])
    refine own_st (fun _ kq => XS.aloadN X39.here hx rfl (hb hby at_139) rfl rfl kq) ?_
    show own_Ends _ _ _ _ _ _ _ T39 (mkF m 140 #[.val (.int p1), .val (.ref b1), .val (.ref r2), .val (.int (0 : Int32)), .unset] [(.ref r2)])
    obtain ⟨cq40, kq40, q40a, q40b, q40c⟩ := isOf hZ e39 (E_2.ext O31.2)
    obtain ⟨_, _, ⟨T40, L40, k40, n40⟩, -, X40, ⟨Lc40, hQ40, l40, y40, z40⟩, st40⟩ := X39.virtualBack hx (y := (⟨"com/example/mimsy/mimsy/wabe/Operator", "shortCircuits", "()Z"⟩ : MethodName)) (z := (⟨"com/example/mimsy/mimsy/wabe/Operator", "shortCircuits", "()Z"⟩ : MethodName)) hown (mvT hZ (hw _ (List.mem_of_getElem? (i := 37) rfl))) (mvT hZ (hw _ (List.mem_of_getElem? (i := 38) rfl))) (notFace_of_selects (args := #[]) (mvT hZ (hw _ (List.mem_of_getElem? (i := 40) rfl)))) (mvT hZ (hw _ (List.mem_of_getElem? (i := 40) rfl))) (mvT hZ (hw _ (List.mem_of_getElem? (i := 39) rfl))) (by decide) (backOf (W := 0) (rm_sc l Z a0 hw [] r2 (0 : Int32) r0 r1 r2 r3 r4 r5 r6 r7 r8 r9 r10 r11 r12 r13 r14 h31 n0 O31 (if_neg (fun q => q.elim (F_2_opcode.ne F_5_opcode (by decide)) (F_2_opcode.ne F_6_opcode (by decide)))) G) hZ (hw _ (List.mem_of_getElem? (i := 41) rfl)) (hw _ (List.mem_of_getElem? (i := 3) rfl)) (by decide) (by decide)) q40a q40c (g := (mkF m 140 #[.val (.int p1), .val (.ref b1), .val (.ref r2), .val (.int (0 : Int32)), .unset] [(.ref r2)])) rfl (by rw [hml]; rfl) (Steps.refl _) (argsL := []) (rest := []) (lenOf pd_0 rfl) rfl (by show 2 * 0 + _ ≤ _; exact Nat.le_of_eq rfl) (hb hby at_140) (fun _ _ => ⟨rfl, e39, (by decide : 1 + 0 ≤ _), (by decide : 15 + 0 ≤ _)⟩)
    dsimp only [Pt.U, Pt.locs, Pt.cells, Pt.slots] at X40 l40 y40 z40 st40 hQ40
    subst l40 y40 z40
    obtain ⟨rfl, N40q, e40⟩ := hQ40
    have N40 := Fr.app N31 N40q
    refine own_tr st40 ?_
    show own_Ends _ _ _ _ _ _ _ T40 (mkF m 143 #[.val (.int p1), .val (.ref b1), .val (.ref r2), .val (.int (0 : Int32)), .unset] [(.int (0 : Int32))])
    refine own_st (fun _ kq => XS.istore X40.here hx rfl (hb hby at_143) rfl (l' := #[.val (.int p1), .val (.ref b1), .val (.ref r2), .val (.int (0 : Int32)), .val (.int (0 : Int32))]) rfl kq) ?_
    show own_Ends _ _ _ _ _ _ _ T40 (mkF m 145 #[.val (.int p1), .val (.ref b1), .val (.ref r2), .val (.int (0 : Int32)), .val (.int (0 : Int32))] [])
    refine own_st (fun _ kq => XS.iload X40.here hx rfl (hb hby at_145) rfl kq) ?_
    show own_Ends _ _ _ _ _ _ _ T40 (mkF m 147 #[.val (.int p1), .val (.ref b1), .val (.ref r2), .val (.int (0 : Int32)), .val (.int (0 : Int32))] [(.int (0 : Int32))])
    refine own_st (fun _ kq => XS.iloadN X40.here hx rfl (hb hby at_147) rfl kq) ?_
    show own_Ends _ _ _ _ _ _ _ T40 (mkF m 148 #[.val (.int p1), .val (.ref b1), .val (.ref r2), .val (.int (0 : Int32)), .val (.int (0 : Int32))] [(.int (0 : Int32)), (.int (0 : Int32))])
    refine own_st (fun _ kq => XS.icmpNo X40.here hx rfl (hb hby at_148) rfl (teq (by decide : (0 : Int32) = (0 : Int32))).2 kq) ?_
    show own_Ends _ _ _ _ _ _ _ T40 (mkF m 151 #[.val (.int p1), .val (.ref b1), .val (.ref r2), .val (.int (0 : Int32)), .val (.int (0 : Int32))] [])
    refine own_st (fun _ kq => XS.iload X40.here hx rfl (hb hby at_151) rfl kq) ?_
    show own_Ends _ _ _ _ _ _ _ T40 (mkF m 153 #[.val (.int p1), .val (.ref b1), .val (.ref r2), .val (.int (0 : Int32)), .val (.int (0 : Int32))] [(.int (0 : Int32))])
    refine own_st (fun _ kq => XS.ifYes X40.here hx rfl (pc0 := 153) (pc' := 164) rfl (hb hby at_153) rfl ((if0 _ _).trans (teq (by decide : (0 : Int32) = (0 : Int32))).1) (by decide) (by decide) kq) ?_
    show own_Ends _ _ _ _ _ _ _ T40 (mkF m 164 #[.val (.int p1), .val (.ref b1), .val (.ref r2), .val (.int (0 : Int32)), .val (.int (0 : Int32))] [])
    refine own_st (fun _ kq => XS.iconst X40.here hx rfl (hb hby at_164) kq) ?_
    show own_Ends _ _ _ _ _ _ _ T40 (mkF m 165 #[.val (.int p1), .val (.ref b1), .val (.ref r2), .val (.int (0 : Int32)), .val (.int (0 : Int32))] [(.int (1 : Int32))])
    refine own_st (fun _ kq => XS.goto X40.here hx rfl (pc0 := 165) (pc' := 169) rfl (hb hby at_165) (by decide) (by decide) kq) ?_
    show own_Ends _ _ _ _ _ _ _ T40 (mkF m 169 #[.val (.int p1), .val (.ref b1), .val (.ref r2), .val (.int (0 : Int32)), .val (.int (0 : Int32))] [(.int (1 : Int32))])
    refine own_retN X40 hx (t := .boolean) Bd.returns (by simp) (hb hby at_169) hlk (by decide) (by decide) (w := (1 : Int32)) (by decide) ?_
    show Q_rm_law Z p1 r0 r1 r2 r3 r4 r5 r6 r7 r8 r9 r10 r11 r12 r13 r14 h0 n0 _ T40.heap _
    rw [e40]
    exact ⟨rfl, N40⟩
  · rw [ej]
    show own_Ends _ _ _ _ _ _ _ T31 (mkF m 113 #[.val (.int p1), .val (.ref b1), .unset, .unset, .unset] [(.int (3 : Int32)), (.ref b1)])
    have hin := inb_of (j := (3 : Int32)) Sz ⟨by decide, by decide⟩
    refine own_st (fun _ kq => X31.aaload hx (j := (3 : Int32)) (v := (.ref r3)) (by rw [e31]; exact Ar.1) (State.isArrayOf_alike hZ.alike Ar.2.1) rfl Ar.2.2 hin (Hv.at hin rfl) (g := (mkF m 113 #[.val (.int p1), .val (.ref b1), .unset, .unset, .unset] [(.int (3 : Int32)), (.ref b1)])) rfl rfl (hb hby at_113) _ kq) ?_
    show own_Ends _ _ _ _ _ _ _ T31 (mkF m 114 #[.val (.int p1), .val (.ref b1), .unset, .unset, .unset] [(.ref r3)])
    refine own_st (fun _ kq => XS.astoreN X31.here hx rfl (hb hby at_114) rfl rfl (l' := #[.val (.int p1), .val (.ref b1), .val (.ref r3), .unset, .unset]) rfl kq) ?_
    show own_Ends _ _ _ _ _ _ _ T31 (mkF m 115 #[.val (.int p1), .val (.ref b1), .val (.ref r3), .unset, .unset] [])
    refine own_st (fun _ kq => XS.aloadN X31.here hx rfl (hb hby at_115) rfl rfl kq) ?_
    show own_Ends _ _ _ _ _ _ _ T31 (mkF m 116 #[.val (.int p1), .val (.ref b1), .val (.ref r3), .unset, .unset] [(.ref r3)])
    obtain ⟨T41, X41, e41, st41⟩ := getF X31 hx hZ hown (host := "") (Or.inl (hw _ (List.mem_of_getElem? (i := 35) rfl))) Via.refl e31 (F_3_opcode.ext O31.2) (g := (mkF m 116 #[.val (.int p1), .val (.ref b1), .val (.ref r3), .unset, .unset] [(.ref r3)])) rfl rfl (hb hby at_116)
    refine own_st st41 ?_
    show own_Ends _ _ _ _ _ _ _ T41 (mkF m 119 #[.val (.int p1), .val (.ref b1), .val (.ref r3), .unset, .unset] [(.int (15 : Int32))])
    refine own_st (fun _ kq => XS.bipush X41.here hx rfl (hb hby at_119) kq) ?_
    show own_Ends _ _ _ _ _ _ _ T41 (mkF m 121 #[.val (.int p1), .val (.ref b1), .val (.ref r3), .unset, .unset] [(.int (7 : Int32)), (.int (15 : Int32))])
    refine own_st (fun _ kq => XS.icmpNo X41.here hx rfl (hb hby at_121) rfl (feq (by decide : ¬ ((15 : Int32) = (7 : Int32)))).1 kq) ?_
    show own_Ends _ _ _ _ _ _ _ T41 (mkF m 124 #[.val (.int p1), .val (.ref b1), .val (.ref r3), .unset, .unset] [])
    refine own_st (fun _ kq => XS.aloadN X41.here hx rfl (hb hby at_124) rfl rfl kq) ?_
    show own_Ends _ _ _ _ _ _ _ T41 (mkF m 125 #[.val (.int p1), .val (.ref b1), .val (.ref r3), .unset, .unset] [(.ref r3)])
    obtain ⟨T42, X42, e42, st42⟩ := getF X41 hx hZ hown (host := "") (Or.inl (hw _ (List.mem_of_getElem? (i := 35) rfl))) Via.refl e41 (F_3_opcode.ext O31.2) (g := (mkF m 125 #[.val (.int p1), .val (.ref b1), .val (.ref r3), .unset, .unset] [(.ref r3)])) rfl rfl (hb hby at_125)
    refine own_st st42 ?_
    show own_Ends _ _ _ _ _ _ _ T42 (mkF m 128 #[.val (.int p1), .val (.ref b1), .val (.ref r3), .unset, .unset] [(.int (15 : Int32))])
    refine own_st (fun _ kq => XS.bipush X42.here hx rfl (hb hby at_128) kq) ?_
    show own_Ends _ _ _ _ _ _ _ T42 (mkF m 130 #[.val (.int p1), .val (.ref b1), .val (.ref r3), .unset, .unset] [(.int (8 : Int32)), (.int (15 : Int32))])
    refine own_st (fun _ kq => XS.icmpYes X42.here hx rfl (pc0 := 130) (pc' := 137) rfl (hb hby at_130) rfl (feq (by decide : ¬ ((15 : Int32) = (8 : Int32)))).2 (by decide) (by decide) kq) ?_
    show own_Ends _ _ _ _ _ _ _ T42 (mkF m 137 #[.val (.int p1), .val (.ref b1), .val (.ref r3), .unset, .unset] [])
    refine own_st (fun _ kq => XS.iconst X42.here hx rfl (hb hby at_137) kq) ?_
    show own_Ends _ _ _ _ _ _ _ T42 (mkF m 138 #[.val (.int p1), .val (.ref b1), .val (.ref r3), .unset, .unset] [(.int (0 : Int32))])
    refine own_st (fun _ kq => XS.istoreN X42.here hx rfl (hb hby at_138) rfl (l' := #[.val (.int p1), .val (.ref b1), .val (.ref r3), .val (.int (0 : Int32)), .unset]) rfl kq) ?_
    show own_Ends _ _ _ _ _ _ _ T42 (mkF m 139 #[.val (.int p1), .val (.ref b1), .val (.ref r3), .val (.int (0 : Int32)), .unset] [])
    refine own_st (fun _ kq => XS.aloadN X42.here hx rfl (hb hby at_139) rfl rfl kq) ?_
    show own_Ends _ _ _ _ _ _ _ T42 (mkF m 140 #[.val (.int p1), .val (.ref b1), .val (.ref r3), .val (.int (0 : Int32)), .unset] [(.ref r3)])
    obtain ⟨cq43, kq43, q43a, q43b, q43c⟩ := isOf hZ e42 (E_3.ext O31.2)
    obtain ⟨_, _, ⟨T43, L43, k43, n43⟩, -, X43, ⟨Lc43, hQ43, l43, y43, z43⟩, st43⟩ := X42.virtualBack hx (y := (⟨"com/example/mimsy/mimsy/wabe/Operator", "shortCircuits", "()Z"⟩ : MethodName)) (z := (⟨"com/example/mimsy/mimsy/wabe/Operator", "shortCircuits", "()Z"⟩ : MethodName)) hown (mvT hZ (hw _ (List.mem_of_getElem? (i := 37) rfl))) (mvT hZ (hw _ (List.mem_of_getElem? (i := 38) rfl))) (notFace_of_selects (args := #[]) (mvT hZ (hw _ (List.mem_of_getElem? (i := 40) rfl)))) (mvT hZ (hw _ (List.mem_of_getElem? (i := 40) rfl))) (mvT hZ (hw _ (List.mem_of_getElem? (i := 39) rfl))) (by decide) (backOf (W := 0) (rm_sc l Z a0 hw [] r3 (0 : Int32) r0 r1 r2 r3 r4 r5 r6 r7 r8 r9 r10 r11 r12 r13 r14 h31 n0 O31 (if_neg (fun q => q.elim (F_3_opcode.ne F_5_opcode (by decide)) (F_3_opcode.ne F_6_opcode (by decide)))) G) hZ (hw _ (List.mem_of_getElem? (i := 41) rfl)) (hw _ (List.mem_of_getElem? (i := 3) rfl)) (by decide) (by decide)) q43a q43c (g := (mkF m 140 #[.val (.int p1), .val (.ref b1), .val (.ref r3), .val (.int (0 : Int32)), .unset] [(.ref r3)])) rfl (by rw [hml]; rfl) (Steps.refl _) (argsL := []) (rest := []) (lenOf pd_0 rfl) rfl (by show 2 * 0 + _ ≤ _; exact Nat.le_of_eq rfl) (hb hby at_140) (fun _ _ => ⟨rfl, e42, (by decide : 1 + 0 ≤ _), (by decide : 15 + 0 ≤ _)⟩)
    dsimp only [Pt.U, Pt.locs, Pt.cells, Pt.slots] at X43 l43 y43 z43 st43 hQ43
    subst l43 y43 z43
    obtain ⟨rfl, N43q, e43⟩ := hQ43
    have N43 := Fr.app N31 N43q
    refine own_tr st43 ?_
    show own_Ends _ _ _ _ _ _ _ T43 (mkF m 143 #[.val (.int p1), .val (.ref b1), .val (.ref r3), .val (.int (0 : Int32)), .unset] [(.int (0 : Int32))])
    refine own_st (fun _ kq => XS.istore X43.here hx rfl (hb hby at_143) rfl (l' := #[.val (.int p1), .val (.ref b1), .val (.ref r3), .val (.int (0 : Int32)), .val (.int (0 : Int32))]) rfl kq) ?_
    show own_Ends _ _ _ _ _ _ _ T43 (mkF m 145 #[.val (.int p1), .val (.ref b1), .val (.ref r3), .val (.int (0 : Int32)), .val (.int (0 : Int32))] [])
    refine own_st (fun _ kq => XS.iload X43.here hx rfl (hb hby at_145) rfl kq) ?_
    show own_Ends _ _ _ _ _ _ _ T43 (mkF m 147 #[.val (.int p1), .val (.ref b1), .val (.ref r3), .val (.int (0 : Int32)), .val (.int (0 : Int32))] [(.int (0 : Int32))])
    refine own_st (fun _ kq => XS.iloadN X43.here hx rfl (hb hby at_147) rfl kq) ?_
    show own_Ends _ _ _ _ _ _ _ T43 (mkF m 148 #[.val (.int p1), .val (.ref b1), .val (.ref r3), .val (.int (0 : Int32)), .val (.int (0 : Int32))] [(.int (0 : Int32)), (.int (0 : Int32))])
    refine own_st (fun _ kq => XS.icmpNo X43.here hx rfl (hb hby at_148) rfl (teq (by decide : (0 : Int32) = (0 : Int32))).2 kq) ?_
    show own_Ends _ _ _ _ _ _ _ T43 (mkF m 151 #[.val (.int p1), .val (.ref b1), .val (.ref r3), .val (.int (0 : Int32)), .val (.int (0 : Int32))] [])
    refine own_st (fun _ kq => XS.iload X43.here hx rfl (hb hby at_151) rfl kq) ?_
    show own_Ends _ _ _ _ _ _ _ T43 (mkF m 153 #[.val (.int p1), .val (.ref b1), .val (.ref r3), .val (.int (0 : Int32)), .val (.int (0 : Int32))] [(.int (0 : Int32))])
    refine own_st (fun _ kq => XS.ifYes X43.here hx rfl (pc0 := 153) (pc' := 164) rfl (hb hby at_153) rfl ((if0 _ _).trans (teq (by decide : (0 : Int32) = (0 : Int32))).1) (by decide) (by decide) kq) ?_
    show own_Ends _ _ _ _ _ _ _ T43 (mkF m 164 #[.val (.int p1), .val (.ref b1), .val (.ref r3), .val (.int (0 : Int32)), .val (.int (0 : Int32))] [])
    refine own_st (fun _ kq => XS.iconst X43.here hx rfl (hb hby at_164) kq) ?_
    show own_Ends _ _ _ _ _ _ _ T43 (mkF m 165 #[.val (.int p1), .val (.ref b1), .val (.ref r3), .val (.int (0 : Int32)), .val (.int (0 : Int32))] [(.int (1 : Int32))])
    refine own_st (fun _ kq => XS.goto X43.here hx rfl (pc0 := 165) (pc' := 169) rfl (hb hby at_165) (by decide) (by decide) kq) ?_
    show own_Ends _ _ _ _ _ _ _ T43 (mkF m 169 #[.val (.int p1), .val (.ref b1), .val (.ref r3), .val (.int (0 : Int32)), .val (.int (0 : Int32))] [(.int (1 : Int32))])
    refine own_retN X43 hx (t := .boolean) Bd.returns (by simp) (hb hby at_169) hlk (by decide) (by decide) (w := (1 : Int32)) (by decide) ?_
    show Q_rm_law Z p1 r0 r1 r2 r3 r4 r5 r6 r7 r8 r9 r10 r11 r12 r13 r14 h0 n0 _ T43.heap _
    rw [e43]
    exact ⟨rfl, N43⟩
  · rw [ej]
    show own_Ends _ _ _ _ _ _ _ T31 (mkF m 113 #[.val (.int p1), .val (.ref b1), .unset, .unset, .unset] [(.int (4 : Int32)), (.ref b1)])
    have hin := inb_of (j := (4 : Int32)) Sz ⟨by decide, by decide⟩
    refine own_st (fun _ kq => X31.aaload hx (j := (4 : Int32)) (v := (.ref r4)) (by rw [e31]; exact Ar.1) (State.isArrayOf_alike hZ.alike Ar.2.1) rfl Ar.2.2 hin (Hv.at hin rfl) (g := (mkF m 113 #[.val (.int p1), .val (.ref b1), .unset, .unset, .unset] [(.int (4 : Int32)), (.ref b1)])) rfl rfl (hb hby at_113) _ kq) ?_
    show own_Ends _ _ _ _ _ _ _ T31 (mkF m 114 #[.val (.int p1), .val (.ref b1), .unset, .unset, .unset] [(.ref r4)])
    refine own_st (fun _ kq => XS.astoreN X31.here hx rfl (hb hby at_114) rfl rfl (l' := #[.val (.int p1), .val (.ref b1), .val (.ref r4), .unset, .unset]) rfl kq) ?_
    show own_Ends _ _ _ _ _ _ _ T31 (mkF m 115 #[.val (.int p1), .val (.ref b1), .val (.ref r4), .unset, .unset] [])
    refine own_st (fun _ kq => XS.aloadN X31.here hx rfl (hb hby at_115) rfl rfl kq) ?_
    show own_Ends _ _ _ _ _ _ _ T31 (mkF m 116 #[.val (.int p1), .val (.ref b1), .val (.ref r4), .unset, .unset] [(.ref r4)])
    obtain ⟨T44, X44, e44, st44⟩ := getF X31 hx hZ hown (host := "") (Or.inl (hw _ (List.mem_of_getElem? (i := 35) rfl))) Via.refl e31 (F_4_opcode.ext O31.2) (g := (mkF m 116 #[.val (.int p1), .val (.ref b1), .val (.ref r4), .unset, .unset] [(.ref r4)])) rfl rfl (hb hby at_116)
    refine own_st st44 ?_
    show own_Ends _ _ _ _ _ _ _ T44 (mkF m 119 #[.val (.int p1), .val (.ref b1), .val (.ref r4), .unset, .unset] [(.int (16 : Int32))])
    refine own_st (fun _ kq => XS.bipush X44.here hx rfl (hb hby at_119) kq) ?_
    show own_Ends _ _ _ _ _ _ _ T44 (mkF m 121 #[.val (.int p1), .val (.ref b1), .val (.ref r4), .unset, .unset] [(.int (7 : Int32)), (.int (16 : Int32))])
    refine own_st (fun _ kq => XS.icmpNo X44.here hx rfl (hb hby at_121) rfl (feq (by decide : ¬ ((16 : Int32) = (7 : Int32)))).1 kq) ?_
    show own_Ends _ _ _ _ _ _ _ T44 (mkF m 124 #[.val (.int p1), .val (.ref b1), .val (.ref r4), .unset, .unset] [])
    refine own_st (fun _ kq => XS.aloadN X44.here hx rfl (hb hby at_124) rfl rfl kq) ?_
    show own_Ends _ _ _ _ _ _ _ T44 (mkF m 125 #[.val (.int p1), .val (.ref b1), .val (.ref r4), .unset, .unset] [(.ref r4)])
    obtain ⟨T45, X45, e45, st45⟩ := getF X44 hx hZ hown (host := "") (Or.inl (hw _ (List.mem_of_getElem? (i := 35) rfl))) Via.refl e44 (F_4_opcode.ext O31.2) (g := (mkF m 125 #[.val (.int p1), .val (.ref b1), .val (.ref r4), .unset, .unset] [(.ref r4)])) rfl rfl (hb hby at_125)
    refine own_st st45 ?_
    show own_Ends _ _ _ _ _ _ _ T45 (mkF m 128 #[.val (.int p1), .val (.ref b1), .val (.ref r4), .unset, .unset] [(.int (16 : Int32))])
    refine own_st (fun _ kq => XS.bipush X45.here hx rfl (hb hby at_128) kq) ?_
    show own_Ends _ _ _ _ _ _ _ T45 (mkF m 130 #[.val (.int p1), .val (.ref b1), .val (.ref r4), .unset, .unset] [(.int (8 : Int32)), (.int (16 : Int32))])
    refine own_st (fun _ kq => XS.icmpYes X45.here hx rfl (pc0 := 130) (pc' := 137) rfl (hb hby at_130) rfl (feq (by decide : ¬ ((16 : Int32) = (8 : Int32)))).2 (by decide) (by decide) kq) ?_
    show own_Ends _ _ _ _ _ _ _ T45 (mkF m 137 #[.val (.int p1), .val (.ref b1), .val (.ref r4), .unset, .unset] [])
    refine own_st (fun _ kq => XS.iconst X45.here hx rfl (hb hby at_137) kq) ?_
    show own_Ends _ _ _ _ _ _ _ T45 (mkF m 138 #[.val (.int p1), .val (.ref b1), .val (.ref r4), .unset, .unset] [(.int (0 : Int32))])
    refine own_st (fun _ kq => XS.istoreN X45.here hx rfl (hb hby at_138) rfl (l' := #[.val (.int p1), .val (.ref b1), .val (.ref r4), .val (.int (0 : Int32)), .unset]) rfl kq) ?_
    show own_Ends _ _ _ _ _ _ _ T45 (mkF m 139 #[.val (.int p1), .val (.ref b1), .val (.ref r4), .val (.int (0 : Int32)), .unset] [])
    refine own_st (fun _ kq => XS.aloadN X45.here hx rfl (hb hby at_139) rfl rfl kq) ?_
    show own_Ends _ _ _ _ _ _ _ T45 (mkF m 140 #[.val (.int p1), .val (.ref b1), .val (.ref r4), .val (.int (0 : Int32)), .unset] [(.ref r4)])
    obtain ⟨cq46, kq46, q46a, q46b, q46c⟩ := isOf hZ e45 (E_4.ext O31.2)
    obtain ⟨_, _, ⟨T46, L46, k46, n46⟩, -, X46, ⟨Lc46, hQ46, l46, y46, z46⟩, st46⟩ := X45.virtualBack hx (y := (⟨"com/example/mimsy/mimsy/wabe/Operator", "shortCircuits", "()Z"⟩ : MethodName)) (z := (⟨"com/example/mimsy/mimsy/wabe/Operator", "shortCircuits", "()Z"⟩ : MethodName)) hown (mvT hZ (hw _ (List.mem_of_getElem? (i := 37) rfl))) (mvT hZ (hw _ (List.mem_of_getElem? (i := 38) rfl))) (notFace_of_selects (args := #[]) (mvT hZ (hw _ (List.mem_of_getElem? (i := 40) rfl)))) (mvT hZ (hw _ (List.mem_of_getElem? (i := 40) rfl))) (mvT hZ (hw _ (List.mem_of_getElem? (i := 39) rfl))) (by decide) (backOf (W := 0) (rm_sc l Z a0 hw [] r4 (0 : Int32) r0 r1 r2 r3 r4 r5 r6 r7 r8 r9 r10 r11 r12 r13 r14 h31 n0 O31 (if_neg (fun q => q.elim (F_4_opcode.ne F_5_opcode (by decide)) (F_4_opcode.ne F_6_opcode (by decide)))) G) hZ (hw _ (List.mem_of_getElem? (i := 41) rfl)) (hw _ (List.mem_of_getElem? (i := 3) rfl)) (by decide) (by decide)) q46a q46c (g := (mkF m 140 #[.val (.int p1), .val (.ref b1), .val (.ref r4), .val (.int (0 : Int32)), .unset] [(.ref r4)])) rfl (by rw [hml]; rfl) (Steps.refl _) (argsL := []) (rest := []) (lenOf pd_0 rfl) rfl (by show 2 * 0 + _ ≤ _; exact Nat.le_of_eq rfl) (hb hby at_140) (fun _ _ => ⟨rfl, e45, (by decide : 1 + 0 ≤ _), (by decide : 15 + 0 ≤ _)⟩)
    dsimp only [Pt.U, Pt.locs, Pt.cells, Pt.slots] at X46 l46 y46 z46 st46 hQ46
    subst l46 y46 z46
    obtain ⟨rfl, N46q, e46⟩ := hQ46
    have N46 := Fr.app N31 N46q
    refine own_tr st46 ?_
    show own_Ends _ _ _ _ _ _ _ T46 (mkF m 143 #[.val (.int p1), .val (.ref b1), .val (.ref r4), .val (.int (0 : Int32)), .unset] [(.int (0 : Int32))])
    refine own_st (fun _ kq => XS.istore X46.here hx rfl (hb hby at_143) rfl (l' := #[.val (.int p1), .val (.ref b1), .val (.ref r4), .val (.int (0 : Int32)), .val (.int (0 : Int32))]) rfl kq) ?_
    show own_Ends _ _ _ _ _ _ _ T46 (mkF m 145 #[.val (.int p1), .val (.ref b1), .val (.ref r4), .val (.int (0 : Int32)), .val (.int (0 : Int32))] [])
    refine own_st (fun _ kq => XS.iload X46.here hx rfl (hb hby at_145) rfl kq) ?_
    show own_Ends _ _ _ _ _ _ _ T46 (mkF m 147 #[.val (.int p1), .val (.ref b1), .val (.ref r4), .val (.int (0 : Int32)), .val (.int (0 : Int32))] [(.int (0 : Int32))])
    refine own_st (fun _ kq => XS.iloadN X46.here hx rfl (hb hby at_147) rfl kq) ?_
    show own_Ends _ _ _ _ _ _ _ T46 (mkF m 148 #[.val (.int p1), .val (.ref b1), .val (.ref r4), .val (.int (0 : Int32)), .val (.int (0 : Int32))] [(.int (0 : Int32)), (.int (0 : Int32))])
    refine own_st (fun _ kq => XS.icmpNo X46.here hx rfl (hb hby at_148) rfl (teq (by decide : (0 : Int32) = (0 : Int32))).2 kq) ?_
    show own_Ends _ _ _ _ _ _ _ T46 (mkF m 151 #[.val (.int p1), .val (.ref b1), .val (.ref r4), .val (.int (0 : Int32)), .val (.int (0 : Int32))] [])
    refine own_st (fun _ kq => XS.iload X46.here hx rfl (hb hby at_151) rfl kq) ?_
    show own_Ends _ _ _ _ _ _ _ T46 (mkF m 153 #[.val (.int p1), .val (.ref b1), .val (.ref r4), .val (.int (0 : Int32)), .val (.int (0 : Int32))] [(.int (0 : Int32))])
    refine own_st (fun _ kq => XS.ifYes X46.here hx rfl (pc0 := 153) (pc' := 164) rfl (hb hby at_153) rfl ((if0 _ _).trans (teq (by decide : (0 : Int32) = (0 : Int32))).1) (by decide) (by decide) kq) ?_
    show own_Ends _ _ _ _ _ _ _ T46 (mkF m 164 #[.val (.int p1), .val (.ref b1), .val (.ref r4), .val (.int (0 : Int32)), .val (.int (0 : Int32))] [])
    refine own_st (fun _ kq => XS.iconst X46.here hx rfl (hb hby at_164) kq) ?_
    show own_Ends _ _ _ _ _ _ _ T46 (mkF m 165 #[.val (.int p1), .val (.ref b1), .val (.ref r4), .val (.int (0 : Int32)), .val (.int (0 : Int32))] [(.int (1 : Int32))])
    refine own_st (fun _ kq => XS.goto X46.here hx rfl (pc0 := 165) (pc' := 169) rfl (hb hby at_165) (by decide) (by decide) kq) ?_
    show own_Ends _ _ _ _ _ _ _ T46 (mkF m 169 #[.val (.int p1), .val (.ref b1), .val (.ref r4), .val (.int (0 : Int32)), .val (.int (0 : Int32))] [(.int (1 : Int32))])
    refine own_retN X46 hx (t := .boolean) Bd.returns (by simp) (hb hby at_169) hlk (by decide) (by decide) (w := (1 : Int32)) (by decide) ?_
    show Q_rm_law Z p1 r0 r1 r2 r3 r4 r5 r6 r7 r8 r9 r10 r11 r12 r13 r14 h0 n0 _ T46.heap _
    rw [e46]
    exact ⟨rfl, N46⟩
  · rw [ej]
    show own_Ends _ _ _ _ _ _ _ T31 (mkF m 113 #[.val (.int p1), .val (.ref b1), .unset, .unset, .unset] [(.int (5 : Int32)), (.ref b1)])
    have hin := inb_of (j := (5 : Int32)) Sz ⟨by decide, by decide⟩
    refine own_st (fun _ kq => X31.aaload hx (j := (5 : Int32)) (v := (.ref r5)) (by rw [e31]; exact Ar.1) (State.isArrayOf_alike hZ.alike Ar.2.1) rfl Ar.2.2 hin (Hv.at hin rfl) (g := (mkF m 113 #[.val (.int p1), .val (.ref b1), .unset, .unset, .unset] [(.int (5 : Int32)), (.ref b1)])) rfl rfl (hb hby at_113) _ kq) ?_
    show own_Ends _ _ _ _ _ _ _ T31 (mkF m 114 #[.val (.int p1), .val (.ref b1), .unset, .unset, .unset] [(.ref r5)])
    refine own_st (fun _ kq => XS.astoreN X31.here hx rfl (hb hby at_114) rfl rfl (l' := #[.val (.int p1), .val (.ref b1), .val (.ref r5), .unset, .unset]) rfl kq) ?_
    show own_Ends _ _ _ _ _ _ _ T31 (mkF m 115 #[.val (.int p1), .val (.ref b1), .val (.ref r5), .unset, .unset] [])
    refine own_st (fun _ kq => XS.aloadN X31.here hx rfl (hb hby at_115) rfl rfl kq) ?_
    show own_Ends _ _ _ _ _ _ _ T31 (mkF m 116 #[.val (.int p1), .val (.ref b1), .val (.ref r5), .unset, .unset] [(.ref r5)])
    obtain ⟨T47, X47, e47, st47⟩ := getF X31 hx hZ hown (host := "") (Or.inl (hw _ (List.mem_of_getElem? (i := 35) rfl))) Via.refl e31 (F_5_opcode.ext O31.2) (g := (mkF m 116 #[.val (.int p1), .val (.ref b1), .val (.ref r5), .unset, .unset] [(.ref r5)])) rfl rfl (hb hby at_116)
    refine own_st st47 ?_
    show own_Ends _ _ _ _ _ _ _ T47 (mkF m 119 #[.val (.int p1), .val (.ref b1), .val (.ref r5), .unset, .unset] [(.int (7 : Int32))])
    refine own_st (fun _ kq => XS.bipush X47.here hx rfl (hb hby at_119) kq) ?_
    show own_Ends _ _ _ _ _ _ _ T47 (mkF m 121 #[.val (.int p1), .val (.ref b1), .val (.ref r5), .unset, .unset] [(.int (7 : Int32)), (.int (7 : Int32))])
    refine own_st (fun _ kq => XS.icmpYes X47.here hx rfl (pc0 := 121) (pc' := 133) rfl (hb hby at_121) rfl (teq (by decide : (7 : Int32) = (7 : Int32))).1 (by decide) (by decide) kq) ?_
    show own_Ends _ _ _ _ _ _ _ T47 (mkF m 133 #[.val (.int p1), .val (.ref b1), .val (.ref r5), .unset, .unset] [])
    refine own_st (fun _ kq => XS.iconst X47.here hx rfl (hb hby at_133) kq) ?_
    show own_Ends _ _ _ _ _ _ _ T47 (mkF m 134 #[.val (.int p1), .val (.ref b1), .val (.ref r5), .unset, .unset] [(.int (1 : Int32))])
    refine own_st (fun _ kq => XS.goto X47.here hx rfl (pc0 := 134) (pc' := 138) rfl (hb hby at_134) (by decide) (by decide) kq) ?_
    show own_Ends _ _ _ _ _ _ _ T47 (mkF m 138 #[.val (.int p1), .val (.ref b1), .val (.ref r5), .unset, .unset] [(.int (1 : Int32))])
    refine own_st (fun _ kq => XS.istoreN X47.here hx rfl (hb hby at_138) rfl (l' := #[.val (.int p1), .val (.ref b1), .val (.ref r5), .val (.int (1 : Int32)), .unset]) rfl kq) ?_
    show own_Ends _ _ _ _ _ _ _ T47 (mkF m 139 #[.val (.int p1), .val (.ref b1), .val (.ref r5), .val (.int (1 : Int32)), .unset] [])
    refine own_st (fun _ kq => XS.aloadN X47.here hx rfl (hb hby at_139) rfl rfl kq) ?_
    show own_Ends _ _ _ _ _ _ _ T47 (mkF m 140 #[.val (.int p1), .val (.ref b1), .val (.ref r5), .val (.int (1 : Int32)), .unset] [(.ref r5)])
    obtain ⟨cq48, kq48, q48a, q48b, q48c⟩ := isOf hZ e47 (E_5.ext O31.2)
    obtain ⟨_, _, ⟨T48, L48, k48, n48⟩, -, X48, ⟨Lc48, hQ48, l48, y48, z48⟩, st48⟩ := X47.virtualBack hx (y := (⟨"com/example/mimsy/mimsy/wabe/Operator", "shortCircuits", "()Z"⟩ : MethodName)) (z := (⟨"com/example/mimsy/mimsy/wabe/Operator", "shortCircuits", "()Z"⟩ : MethodName)) hown (mvT hZ (hw _ (List.mem_of_getElem? (i := 37) rfl))) (mvT hZ (hw _ (List.mem_of_getElem? (i := 38) rfl))) (notFace_of_selects (args := #[]) (mvT hZ (hw _ (List.mem_of_getElem? (i := 40) rfl)))) (mvT hZ (hw _ (List.mem_of_getElem? (i := 40) rfl))) (mvT hZ (hw _ (List.mem_of_getElem? (i := 39) rfl))) (by decide) (backOf (W := 0) (rm_sc l Z a0 hw [] r5 (1 : Int32) r0 r1 r2 r3 r4 r5 r6 r7 r8 r9 r10 r11 r12 r13 r14 h31 n0 O31 (if_pos (Or.inl rfl)) G) hZ (hw _ (List.mem_of_getElem? (i := 41) rfl)) (hw _ (List.mem_of_getElem? (i := 3) rfl)) (by decide) (by decide)) q48a q48c (g := (mkF m 140 #[.val (.int p1), .val (.ref b1), .val (.ref r5), .val (.int (1 : Int32)), .unset] [(.ref r5)])) rfl (by rw [hml]; rfl) (Steps.refl _) (argsL := []) (rest := []) (lenOf pd_0 rfl) rfl (by show 2 * 0 + _ ≤ _; exact Nat.le_of_eq rfl) (hb hby at_140) (fun _ _ => ⟨rfl, e47, (by decide : 1 + 0 ≤ _), (by decide : 15 + 0 ≤ _)⟩)
    dsimp only [Pt.U, Pt.locs, Pt.cells, Pt.slots] at X48 l48 y48 z48 st48 hQ48
    subst l48 y48 z48
    obtain ⟨rfl, N48q, e48⟩ := hQ48
    have N48 := Fr.app N31 N48q
    refine own_tr st48 ?_
    show own_Ends _ _ _ _ _ _ _ T48 (mkF m 143 #[.val (.int p1), .val (.ref b1), .val (.ref r5), .val (.int (1 : Int32)), .unset] [(.int (1 : Int32))])
    refine own_st (fun _ kq => XS.istore X48.here hx rfl (hb hby at_143) rfl (l' := #[.val (.int p1), .val (.ref b1), .val (.ref r5), .val (.int (1 : Int32)), .val (.int (1 : Int32))]) rfl kq) ?_
    show own_Ends _ _ _ _ _ _ _ T48 (mkF m 145 #[.val (.int p1), .val (.ref b1), .val (.ref r5), .val (.int (1 : Int32)), .val (.int (1 : Int32))] [])
    refine own_st (fun _ kq => XS.iload X48.here hx rfl (hb hby at_145) rfl kq) ?_
    show own_Ends _ _ _ _ _ _ _ T48 (mkF m 147 #[.val (.int p1), .val (.ref b1), .val (.ref r5), .val (.int (1 : Int32)), .val (.int (1 : Int32))] [(.int (1 : Int32))])
    refine own_st (fun _ kq => XS.iloadN X48.here hx rfl (hb hby at_147) rfl kq) ?_
    show own_Ends _ _ _ _ _ _ _ T48 (mkF m 148 #[.val (.int p1), .val (.ref b1), .val (.ref r5), .val (.int (1 : Int32)), .val (.int (1 : Int32))] [(.int (1 : Int32)), (.int (1 : Int32))])
    refine own_st (fun _ kq => XS.icmpNo X48.here hx rfl (hb hby at_148) rfl (teq (by decide : (1 : Int32) = (1 : Int32))).2 kq) ?_
    show own_Ends _ _ _ _ _ _ _ T48 (mkF m 151 #[.val (.int p1), .val (.ref b1), .val (.ref r5), .val (.int (1 : Int32)), .val (.int (1 : Int32))] [])
    refine own_st (fun _ kq => XS.iload X48.here hx rfl (hb hby at_151) rfl kq) ?_
    show own_Ends _ _ _ _ _ _ _ T48 (mkF m 153 #[.val (.int p1), .val (.ref b1), .val (.ref r5), .val (.int (1 : Int32)), .val (.int (1 : Int32))] [(.int (1 : Int32))])
    refine own_st (fun _ kq => XS.ifNo X48.here hx rfl (hb hby at_153) rfl ((if0 _ _).trans (feq (by decide : ¬ ((1 : Int32) = (0 : Int32)))).1) kq) ?_
    show own_Ends _ _ _ _ _ _ _ T48 (mkF m 156 #[.val (.int p1), .val (.ref b1), .val (.ref r5), .val (.int (1 : Int32)), .val (.int (1 : Int32))] [])
    refine own_st (fun _ kq => XS.aloadN X48.here hx rfl (hb hby at_156) rfl rfl kq) ?_
    show own_Ends _ _ _ _ _ _ _ T48 (mkF m 157 #[.val (.int p1), .val (.ref b1), .val (.ref r5), .val (.int (1 : Int32)), .val (.int (1 : Int32))] [(.ref r5)])
    obtain ⟨T49, X49, e49, st49⟩ := getF X48 hx hZ hown (host := "") (Or.inl (hw _ (List.mem_of_getElem? (i := 44) rfl))) Via.refl e48 (F_5_operands.ext O31.2) (g := (mkF m 157 #[.val (.int p1), .val (.ref b1), .val (.ref r5), .val (.int (1 : Int32)), .val (.int (1 : Int32))] [(.ref r5)])) rfl rfl (hb hby at_157)
    refine own_st st49 ?_
    show own_Ends _ _ _ _ _ _ _ T49 (mkF m 160 #[.val (.int p1), .val (.ref b1), .val (.ref r5), .val (.int (1 : Int32)), .val (.int (1 : Int32))] [(.int (2 : Int32))])
    refine own_st (fun _ kq => XS.iconst X49.here hx rfl (hb hby at_160) kq) ?_
    show own_Ends _ _ _ _ _ _ _ T49 (mkF m 161 #[.val (.int p1), .val (.ref b1), .val (.ref r5), .val (.int (1 : Int32)), .val (.int (1 : Int32))] [(.int (2 : Int32)), (.int (2 : Int32))])
    refine own_st (fun _ kq => XS.icmpNo X49.here hx rfl (hb hby at_161) rfl (teq (by decide : (2 : Int32) = (2 : Int32))).2 kq) ?_
    show own_Ends _ _ _ _ _ _ _ T49 (mkF m 164 #[.val (.int p1), .val (.ref b1), .val (.ref r5), .val (.int (1 : Int32)), .val (.int (1 : Int32))] [])
    refine own_st (fun _ kq => XS.iconst X49.here hx rfl (hb hby at_164) kq) ?_
    show own_Ends _ _ _ _ _ _ _ T49 (mkF m 165 #[.val (.int p1), .val (.ref b1), .val (.ref r5), .val (.int (1 : Int32)), .val (.int (1 : Int32))] [(.int (1 : Int32))])
    refine own_st (fun _ kq => XS.goto X49.here hx rfl (pc0 := 165) (pc' := 169) rfl (hb hby at_165) (by decide) (by decide) kq) ?_
    show own_Ends _ _ _ _ _ _ _ T49 (mkF m 169 #[.val (.int p1), .val (.ref b1), .val (.ref r5), .val (.int (1 : Int32)), .val (.int (1 : Int32))] [(.int (1 : Int32))])
    refine own_retN X49 hx (t := .boolean) Bd.returns (by simp) (hb hby at_169) hlk (by decide) (by decide) (w := (1 : Int32)) (by decide) ?_
    show Q_rm_law Z p1 r0 r1 r2 r3 r4 r5 r6 r7 r8 r9 r10 r11 r12 r13 r14 h0 n0 _ T49.heap _
    rw [e49]
    exact ⟨rfl, N48⟩
  · rw [ej]
    show own_Ends _ _ _ _ _ _ _ T31 (mkF m 113 #[.val (.int p1), .val (.ref b1), .unset, .unset, .unset] [(.int (6 : Int32)), (.ref b1)])
    have hin := inb_of (j := (6 : Int32)) Sz ⟨by decide, by decide⟩
    refine own_st (fun _ kq => X31.aaload hx (j := (6 : Int32)) (v := (.ref r6)) (by rw [e31]; exact Ar.1) (State.isArrayOf_alike hZ.alike Ar.2.1) rfl Ar.2.2 hin (Hv.at hin rfl) (g := (mkF m 113 #[.val (.int p1), .val (.ref b1), .unset, .unset, .unset] [(.int (6 : Int32)), (.ref b1)])) rfl rfl (hb hby at_113) _ kq) ?_
    show own_Ends _ _ _ _ _ _ _ T31 (mkF m 114 #[.val (.int p1), .val (.ref b1), .unset, .unset, .unset] [(.ref r6)])
    refine own_st (fun _ kq => XS.astoreN X31.here hx rfl (hb hby at_114) rfl rfl (l' := #[.val (.int p1), .val (.ref b1), .val (.ref r6), .unset, .unset]) rfl kq) ?_
    show own_Ends _ _ _ _ _ _ _ T31 (mkF m 115 #[.val (.int p1), .val (.ref b1), .val (.ref r6), .unset, .unset] [])
    refine own_st (fun _ kq => XS.aloadN X31.here hx rfl (hb hby at_115) rfl rfl kq) ?_
    show own_Ends _ _ _ _ _ _ _ T31 (mkF m 116 #[.val (.int p1), .val (.ref b1), .val (.ref r6), .unset, .unset] [(.ref r6)])
    obtain ⟨T50, X50, e50, st50⟩ := getF X31 hx hZ hown (host := "") (Or.inl (hw _ (List.mem_of_getElem? (i := 35) rfl))) Via.refl e31 (F_6_opcode.ext O31.2) (g := (mkF m 116 #[.val (.int p1), .val (.ref b1), .val (.ref r6), .unset, .unset] [(.ref r6)])) rfl rfl (hb hby at_116)
    refine own_st st50 ?_
    show own_Ends _ _ _ _ _ _ _ T50 (mkF m 119 #[.val (.int p1), .val (.ref b1), .val (.ref r6), .unset, .unset] [(.int (8 : Int32))])
    refine own_st (fun _ kq => XS.bipush X50.here hx rfl (hb hby at_119) kq) ?_
    show own_Ends _ _ _ _ _ _ _ T50 (mkF m 121 #[.val (.int p1), .val (.ref b1), .val (.ref r6), .unset, .unset] [(.int (7 : Int32)), (.int (8 : Int32))])
    refine own_st (fun _ kq => XS.icmpNo X50.here hx rfl (hb hby at_121) rfl (feq (by decide : ¬ ((8 : Int32) = (7 : Int32)))).1 kq) ?_
    show own_Ends _ _ _ _ _ _ _ T50 (mkF m 124 #[.val (.int p1), .val (.ref b1), .val (.ref r6), .unset, .unset] [])
    refine own_st (fun _ kq => XS.aloadN X50.here hx rfl (hb hby at_124) rfl rfl kq) ?_
    show own_Ends _ _ _ _ _ _ _ T50 (mkF m 125 #[.val (.int p1), .val (.ref b1), .val (.ref r6), .unset, .unset] [(.ref r6)])
    obtain ⟨T51, X51, e51, st51⟩ := getF X50 hx hZ hown (host := "") (Or.inl (hw _ (List.mem_of_getElem? (i := 35) rfl))) Via.refl e50 (F_6_opcode.ext O31.2) (g := (mkF m 125 #[.val (.int p1), .val (.ref b1), .val (.ref r6), .unset, .unset] [(.ref r6)])) rfl rfl (hb hby at_125)
    refine own_st st51 ?_
    show own_Ends _ _ _ _ _ _ _ T51 (mkF m 128 #[.val (.int p1), .val (.ref b1), .val (.ref r6), .unset, .unset] [(.int (8 : Int32))])
    refine own_st (fun _ kq => XS.bipush X51.here hx rfl (hb hby at_128) kq) ?_
    show own_Ends _ _ _ _ _ _ _ T51 (mkF m 130 #[.val (.int p1), .val (.ref b1), .val (.ref r6), .unset, .unset] [(.int (8 : Int32)), (.int (8 : Int32))])
    refine own_st (fun _ kq => XS.icmpNo X51.here hx rfl (hb hby at_130) rfl (teq (by decide : (8 : Int32) = (8 : Int32))).2 kq) ?_
    show own_Ends _ _ _ _ _ _ _ T51 (mkF m 133 #[.val (.int p1), .val (.ref b1), .val (.ref r6), .unset, .unset] [])
    refine own_st (fun _ kq => XS.iconst X51.here hx rfl (hb hby at_133) kq) ?_
    show own_Ends _ _ _ _ _ _ _ T51 (mkF m 134 #[.val (.int p1), .val (.ref b1), .val (.ref r6), .unset, .unset] [(.int (1 : Int32))])
    refine own_st (fun _ kq => XS.goto X51.here hx rfl (pc0 := 134) (pc' := 138) rfl (hb hby at_134) (by decide) (by decide) kq) ?_
    show own_Ends _ _ _ _ _ _ _ T51 (mkF m 138 #[.val (.int p1), .val (.ref b1), .val (.ref r6), .unset, .unset] [(.int (1 : Int32))])
    refine own_st (fun _ kq => XS.istoreN X51.here hx rfl (hb hby at_138) rfl (l' := #[.val (.int p1), .val (.ref b1), .val (.ref r6), .val (.int (1 : Int32)), .unset]) rfl kq) ?_
    show own_Ends _ _ _ _ _ _ _ T51 (mkF m 139 #[.val (.int p1), .val (.ref b1), .val (.ref r6), .val (.int (1 : Int32)), .unset] [])
    refine own_st (fun _ kq => XS.aloadN X51.here hx rfl (hb hby at_139) rfl rfl kq) ?_
    show own_Ends _ _ _ _ _ _ _ T51 (mkF m 140 #[.val (.int p1), .val (.ref b1), .val (.ref r6), .val (.int (1 : Int32)), .unset] [(.ref r6)])
    obtain ⟨cq52, kq52, q52a, q52b, q52c⟩ := isOf hZ e51 (E_6.ext O31.2)
    obtain ⟨_, _, ⟨T52, L52, k52, n52⟩, -, X52, ⟨Lc52, hQ52, l52, y52, z52⟩, st52⟩ := X51.virtualBack hx (y := (⟨"com/example/mimsy/mimsy/wabe/Operator", "shortCircuits", "()Z"⟩ : MethodName)) (z := (⟨"com/example/mimsy/mimsy/wabe/Operator", "shortCircuits", "()Z"⟩ : MethodName)) hown (mvT hZ (hw _ (List.mem_of_getElem? (i := 37) rfl))) (mvT hZ (hw _ (List.mem_of_getElem? (i := 38) rfl))) (notFace_of_selects (args := #[]) (mvT hZ (hw _ (List.mem_of_getElem? (i := 40) rfl)))) (mvT hZ (hw _ (List.mem_of_getElem? (i := 40) rfl))) (mvT hZ (hw _ (List.mem_of_getElem? (i := 39) rfl))) (by decide) (backOf (W := 0) (rm_sc l Z a0 hw [] r6 (1 : Int32) r0 r1 r2 r3 r4 r5 r6 r7 r8 r9 r10 r11 r12 r13 r14 h31 n0 O31 (if_pos (Or.inr rfl)) G) hZ (hw _ (List.mem_of_getElem? (i := 41) rfl)) (hw _ (List.mem_of_getElem? (i := 3) rfl)) (by decide) (by decide)) q52a q52c (g := (mkF m 140 #[.val (.int p1), .val (.ref b1), .val (.ref r6), .val (.int (1 : Int32)), .unset] [(.ref r6)])) rfl (by rw [hml]; rfl) (Steps.refl _) (argsL := []) (rest := []) (lenOf pd_0 rfl) rfl (by show 2 * 0 + _ ≤ _; exact Nat.le_of_eq rfl) (hb hby at_140) (fun _ _ => ⟨rfl, e51, (by decide : 1 + 0 ≤ _), (by decide : 15 + 0 ≤ _)⟩)
    dsimp only [Pt.U, Pt.locs, Pt.cells, Pt.slots] at X52 l52 y52 z52 st52 hQ52
    subst l52 y52 z52
    obtain ⟨rfl, N52q, e52⟩ := hQ52
    have N52 := Fr.app N31 N52q
    refine own_tr st52 ?_
    show own_Ends _ _ _ _ _ _ _ T52 (mkF m 143 #[.val (.int p1), .val (.ref b1), .val (.ref r6), .val (.int (1 : Int32)), .unset] [(.int (1 : Int32))])
    refine own_st (fun _ kq => XS.istore X52.here hx rfl (hb hby at_143) rfl (l' := #[.val (.int p1), .val (.ref b1), .val (.ref r6), .val (.int (1 : Int32)), .val (.int (1 : Int32))]) rfl kq) ?_
    show own_Ends _ _ _ _ _ _ _ T52 (mkF m 145 #[.val (.int p1), .val (.ref b1), .val (.ref r6), .val (.int (1 : Int32)), .val (.int (1 : Int32))] [])
    refine own_st (fun _ kq => XS.iload X52.here hx rfl (hb hby at_145) rfl kq) ?_
    show own_Ends _ _ _ _ _ _ _ T52 (mkF m 147 #[.val (.int p1), .val (.ref b1), .val (.ref r6), .val (.int (1 : Int32)), .val (.int (1 : Int32))] [(.int (1 : Int32))])
    refine own_st (fun _ kq => XS.iloadN X52.here hx rfl (hb hby at_147) rfl kq) ?_
    show own_Ends _ _ _ _ _ _ _ T52 (mkF m 148 #[.val (.int p1), .val (.ref b1), .val (.ref r6), .val (.int (1 : Int32)), .val (.int (1 : Int32))] [(.int (1 : Int32)), (.int (1 : Int32))])
    refine own_st (fun _ kq => XS.icmpNo X52.here hx rfl (hb hby at_148) rfl (teq (by decide : (1 : Int32) = (1 : Int32))).2 kq) ?_
    show own_Ends _ _ _ _ _ _ _ T52 (mkF m 151 #[.val (.int p1), .val (.ref b1), .val (.ref r6), .val (.int (1 : Int32)), .val (.int (1 : Int32))] [])
    refine own_st (fun _ kq => XS.iload X52.here hx rfl (hb hby at_151) rfl kq) ?_
    show own_Ends _ _ _ _ _ _ _ T52 (mkF m 153 #[.val (.int p1), .val (.ref b1), .val (.ref r6), .val (.int (1 : Int32)), .val (.int (1 : Int32))] [(.int (1 : Int32))])
    refine own_st (fun _ kq => XS.ifNo X52.here hx rfl (hb hby at_153) rfl ((if0 _ _).trans (feq (by decide : ¬ ((1 : Int32) = (0 : Int32)))).1) kq) ?_
    show own_Ends _ _ _ _ _ _ _ T52 (mkF m 156 #[.val (.int p1), .val (.ref b1), .val (.ref r6), .val (.int (1 : Int32)), .val (.int (1 : Int32))] [])
    refine own_st (fun _ kq => XS.aloadN X52.here hx rfl (hb hby at_156) rfl rfl kq) ?_
    show own_Ends _ _ _ _ _ _ _ T52 (mkF m 157 #[.val (.int p1), .val (.ref b1), .val (.ref r6), .val (.int (1 : Int32)), .val (.int (1 : Int32))] [(.ref r6)])
    obtain ⟨T53, X53, e53, st53⟩ := getF X52 hx hZ hown (host := "") (Or.inl (hw _ (List.mem_of_getElem? (i := 44) rfl))) Via.refl e52 (F_6_operands.ext O31.2) (g := (mkF m 157 #[.val (.int p1), .val (.ref b1), .val (.ref r6), .val (.int (1 : Int32)), .val (.int (1 : Int32))] [(.ref r6)])) rfl rfl (hb hby at_157)
    refine own_st st53 ?_
    show own_Ends _ _ _ _ _ _ _ T53 (mkF m 160 #[.val (.int p1), .val (.ref b1), .val (.ref r6), .val (.int (1 : Int32)), .val (.int (1 : Int32))] [(.int (2 : Int32))])
    refine own_st (fun _ kq => XS.iconst X53.here hx rfl (hb hby at_160) kq) ?_
    show own_Ends _ _ _ _ _ _ _ T53 (mkF m 161 #[.val (.int p1), .val (.ref b1), .val (.ref r6), .val (.int (1 : Int32)), .val (.int (1 : Int32))] [(.int (2 : Int32)), (.int (2 : Int32))])
    refine own_st (fun _ kq => XS.icmpNo X53.here hx rfl (hb hby at_161) rfl (teq (by decide : (2 : Int32) = (2 : Int32))).2 kq) ?_
    show own_Ends _ _ _ _ _ _ _ T53 (mkF m 164 #[.val (.int p1), .val (.ref b1), .val (.ref r6), .val (.int (1 : Int32)), .val (.int (1 : Int32))] [])
    refine own_st (fun _ kq => XS.iconst X53.here hx rfl (hb hby at_164) kq) ?_
    show own_Ends _ _ _ _ _ _ _ T53 (mkF m 165 #[.val (.int p1), .val (.ref b1), .val (.ref r6), .val (.int (1 : Int32)), .val (.int (1 : Int32))] [(.int (1 : Int32))])
    refine own_st (fun _ kq => XS.goto X53.here hx rfl (pc0 := 165) (pc' := 169) rfl (hb hby at_165) (by decide) (by decide) kq) ?_
    show own_Ends _ _ _ _ _ _ _ T53 (mkF m 169 #[.val (.int p1), .val (.ref b1), .val (.ref r6), .val (.int (1 : Int32)), .val (.int (1 : Int32))] [(.int (1 : Int32))])
    refine own_retN X53 hx (t := .boolean) Bd.returns (by simp) (hb hby at_169) hlk (by decide) (by decide) (w := (1 : Int32)) (by decide) ?_
    show Q_rm_law Z p1 r0 r1 r2 r3 r4 r5 r6 r7 r8 r9 r10 r11 r12 r13 r14 h0 n0 _ T53.heap _
    rw [e53]
    exact ⟨rfl, N52⟩
  · rw [ej]
    show own_Ends _ _ _ _ _ _ _ T31 (mkF m 113 #[.val (.int p1), .val (.ref b1), .unset, .unset, .unset] [(.int (7 : Int32)), (.ref b1)])
    have hin := inb_of (j := (7 : Int32)) Sz ⟨by decide, by decide⟩
    refine own_st (fun _ kq => X31.aaload hx (j := (7 : Int32)) (v := (.ref r7)) (by rw [e31]; exact Ar.1) (State.isArrayOf_alike hZ.alike Ar.2.1) rfl Ar.2.2 hin (Hv.at hin rfl) (g := (mkF m 113 #[.val (.int p1), .val (.ref b1), .unset, .unset, .unset] [(.int (7 : Int32)), (.ref b1)])) rfl rfl (hb hby at_113) _ kq) ?_
    show own_Ends _ _ _ _ _ _ _ T31 (mkF m 114 #[.val (.int p1), .val (.ref b1), .unset, .unset, .unset] [(.ref r7)])
    refine own_st (fun _ kq => XS.astoreN X31.here hx rfl (hb hby at_114) rfl rfl (l' := #[.val (.int p1), .val (.ref b1), .val (.ref r7), .unset, .unset]) rfl kq) ?_
    show own_Ends _ _ _ _ _ _ _ T31 (mkF m 115 #[.val (.int p1), .val (.ref b1), .val (.ref r7), .unset, .unset] [])
    refine own_st (fun _ kq => XS.aloadN X31.here hx rfl (hb hby at_115) rfl rfl kq) ?_
    show own_Ends _ _ _ _ _ _ _ T31 (mkF m 116 #[.val (.int p1), .val (.ref b1), .val (.ref r7), .unset, .unset] [(.ref r7)])
    obtain ⟨T54, X54, e54, st54⟩ := getF X31 hx hZ hown (host := "") (Or.inl (hw _ (List.mem_of_getElem? (i := 35) rfl))) Via.refl e31 (F_7_opcode.ext O31.2) (g := (mkF m 116 #[.val (.int p1), .val (.ref b1), .val (.ref r7), .unset, .unset] [(.ref r7)])) rfl rfl (hb hby at_116)
    refine own_st st54 ?_
    show own_Ends _ _ _ _ _ _ _ T54 (mkF m 119 #[.val (.int p1), .val (.ref b1), .val (.ref r7), .unset, .unset] [(.int (17 : Int32))])
    refine own_st (fun _ kq => XS.bipush X54.here hx rfl (hb hby at_119) kq) ?_
    show own_Ends _ _ _ _ _ _ _ T54 (mkF m 121 #[.val (.int p1), .val (.ref b1), .val (.ref r7), .unset, .unset] [(.int (7 : Int32)), (.int (17 : Int32))])
    refine own_st (fun _ kq => XS.icmpNo X54.here hx rfl (hb hby at_121) rfl (feq (by decide : ¬ ((17 : Int32) = (7 : Int32)))).1 kq) ?_
    show own_Ends _ _ _ _ _ _ _ T54 (mkF m 124 #[.val (.int p1), .val (.ref b1), .val (.ref r7), .unset, .unset] [])
    refine own_st (fun _ kq => XS.aloadN X54.here hx rfl (hb hby at_124) rfl rfl kq) ?_
    show own_Ends _ _ _ _ _ _ _ T54 (mkF m 125 #[.val (.int p1), .val (.ref b1), .val (.ref r7), .unset, .unset] [(.ref r7)])
    obtain ⟨T55, X55, e55, st55⟩ := getF X54 hx hZ hown (host := "") (Or.inl (hw _ (List.mem_of_getElem? (i := 35) rfl))) Via.refl e54 (F_7_opcode.ext O31.2) (g := (mkF m 125 #[.val (.int p1), .val (.ref b1), .val (.ref r7), .unset, .unset] [(.ref r7)])) rfl rfl (hb hby at_125)
    refine own_st st55 ?_
    show own_Ends _ _ _ _ _ _ _ T55 (mkF m 128 #[.val (.int p1), .val (.ref b1), .val (.ref r7), .unset, .unset] [(.int (17 : Int32))])
    refine own_st (fun _ kq => XS.bipush X55.here hx rfl (hb hby at_128) kq) ?_
    show own_Ends _ _ _ _ _ _ _ T55 (mkF m 130 #[.val (.int p1), .val (.ref b1), .val (.ref r7), .unset, .unset] [(.int (8 : Int32)), (.int (17 : Int32))])
    refine own_st (fun _ kq => XS.icmpYes X55.here hx rfl (pc0 := 130) (pc' := 137) rfl (hb hby at_130) rfl (feq (by decide : ¬ ((17 : Int32) = (8 : Int32)))).2 (by decide) (by decide) kq) ?_
    show own_Ends _ _ _ _ _ _ _ T55 (mkF m 137 #[.val (.int p1), .val (.ref b1), .val (.ref r7), .unset, .unset] [])
    refine own_st (fun _ kq => XS.iconst X55.here hx rfl (hb hby at_137) kq) ?_
    show own_Ends _ _ _ _ _ _ _ T55 (mkF m 138 #[.val (.int p1), .val (.ref b1), .val (.ref r7), .unset, .unset] [(.int (0 : Int32))])
    refine own_st (fun _ kq => XS.istoreN X55.here hx rfl (hb hby at_138) rfl (l' := #[.val (.int p1), .val (.ref b1), .val (.ref r7), .val (.int (0 : Int32)), .unset]) rfl kq) ?_
    show own_Ends _ _ _ _ _ _ _ T55 (mkF m 139 #[.val (.int p1), .val (.ref b1), .val (.ref r7), .val (.int (0 : Int32)), .unset] [])
    refine own_st (fun _ kq => XS.aloadN X55.here hx rfl (hb hby at_139) rfl rfl kq) ?_
    show own_Ends _ _ _ _ _ _ _ T55 (mkF m 140 #[.val (.int p1), .val (.ref b1), .val (.ref r7), .val (.int (0 : Int32)), .unset] [(.ref r7)])
    obtain ⟨cq56, kq56, q56a, q56b, q56c⟩ := isOf hZ e55 (E_7.ext O31.2)
    obtain ⟨_, _, ⟨T56, L56, k56, n56⟩, -, X56, ⟨Lc56, hQ56, l56, y56, z56⟩, st56⟩ := X55.virtualBack hx (y := (⟨"com/example/mimsy/mimsy/wabe/Operator", "shortCircuits", "()Z"⟩ : MethodName)) (z := (⟨"com/example/mimsy/mimsy/wabe/Operator", "shortCircuits", "()Z"⟩ : MethodName)) hown (mvT hZ (hw _ (List.mem_of_getElem? (i := 37) rfl))) (mvT hZ (hw _ (List.mem_of_getElem? (i := 38) rfl))) (notFace_of_selects (args := #[]) (mvT hZ (hw _ (List.mem_of_getElem? (i := 40) rfl)))) (mvT hZ (hw _ (List.mem_of_getElem? (i := 40) rfl))) (mvT hZ (hw _ (List.mem_of_getElem? (i := 39) rfl))) (by decide) (backOf (W := 0) (rm_sc l Z a0 hw [] r7 (0 : Int32) r0 r1 r2 r3 r4 r5 r6 r7 r8 r9 r10 r11 r12 r13 r14 h31 n0 O31 (if_neg (fun q => q.elim (F_7_opcode.ne F_5_opcode (by decide)) (F_7_opcode.ne F_6_opcode (by decide)))) G) hZ (hw _ (List.mem_of_getElem? (i := 41) rfl)) (hw _ (List.mem_of_getElem? (i := 3) rfl)) (by decide) (by decide)) q56a q56c (g := (mkF m 140 #[.val (.int p1), .val (.ref b1), .val (.ref r7), .val (.int (0 : Int32)), .unset] [(.ref r7)])) rfl (by rw [hml]; rfl) (Steps.refl _) (argsL := []) (rest := []) (lenOf pd_0 rfl) rfl (by show 2 * 0 + _ ≤ _; exact Nat.le_of_eq rfl) (hb hby at_140) (fun _ _ => ⟨rfl, e55, (by decide : 1 + 0 ≤ _), (by decide : 15 + 0 ≤ _)⟩)
    dsimp only [Pt.U, Pt.locs, Pt.cells, Pt.slots] at X56 l56 y56 z56 st56 hQ56
    subst l56 y56 z56
    obtain ⟨rfl, N56q, e56⟩ := hQ56
    have N56 := Fr.app N31 N56q
    refine own_tr st56 ?_
    show own_Ends _ _ _ _ _ _ _ T56 (mkF m 143 #[.val (.int p1), .val (.ref b1), .val (.ref r7), .val (.int (0 : Int32)), .unset] [(.int (0 : Int32))])
    refine own_st (fun _ kq => XS.istore X56.here hx rfl (hb hby at_143) rfl (l' := #[.val (.int p1), .val (.ref b1), .val (.ref r7), .val (.int (0 : Int32)), .val (.int (0 : Int32))]) rfl kq) ?_
    show own_Ends _ _ _ _ _ _ _ T56 (mkF m 145 #[.val (.int p1), .val (.ref b1), .val (.ref r7), .val (.int (0 : Int32)), .val (.int (0 : Int32))] [])
    refine own_st (fun _ kq => XS.iload X56.here hx rfl (hb hby at_145) rfl kq) ?_
    show own_Ends _ _ _ _ _ _ _ T56 (mkF m 147 #[.val (.int p1), .val (.ref b1), .val (.ref r7), .val (.int (0 : Int32)), .val (.int (0 : Int32))] [(.int (0 : Int32))])
    refine own_st (fun _ kq => XS.iloadN X56.here hx rfl (hb hby at_147) rfl kq) ?_
    show own_Ends _ _ _ _ _ _ _ T56 (mkF m 148 #[.val (.int p1), .val (.ref b1), .val (.ref r7), .val (.int (0 : Int32)), .val (.int (0 : Int32))] [(.int (0 : Int32)), (.int (0 : Int32))])
    refine own_st (fun _ kq => XS.icmpNo X56.here hx rfl (hb hby at_148) rfl (teq (by decide : (0 : Int32) = (0 : Int32))).2 kq) ?_
    show own_Ends _ _ _ _ _ _ _ T56 (mkF m 151 #[.val (.int p1), .val (.ref b1), .val (.ref r7), .val (.int (0 : Int32)), .val (.int (0 : Int32))] [])
    refine own_st (fun _ kq => XS.iload X56.here hx rfl (hb hby at_151) rfl kq) ?_
    show own_Ends _ _ _ _ _ _ _ T56 (mkF m 153 #[.val (.int p1), .val (.ref b1), .val (.ref r7), .val (.int (0 : Int32)), .val (.int (0 : Int32))] [(.int (0 : Int32))])
    refine own_st (fun _ kq => XS.ifYes X56.here hx rfl (pc0 := 153) (pc' := 164) rfl (hb hby at_153) rfl ((if0 _ _).trans (teq (by decide : (0 : Int32) = (0 : Int32))).1) (by decide) (by decide) kq) ?_
    show own_Ends _ _ _ _ _ _ _ T56 (mkF m 164 #[.val (.int p1), .val (.ref b1), .val (.ref r7), .val (.int (0 : Int32)), .val (.int (0 : Int32))] [])
    refine own_st (fun _ kq => XS.iconst X56.here hx rfl (hb hby at_164) kq) ?_
    show own_Ends _ _ _ _ _ _ _ T56 (mkF m 165 #[.val (.int p1), .val (.ref b1), .val (.ref r7), .val (.int (0 : Int32)), .val (.int (0 : Int32))] [(.int (1 : Int32))])
    refine own_st (fun _ kq => XS.goto X56.here hx rfl (pc0 := 165) (pc' := 169) rfl (hb hby at_165) (by decide) (by decide) kq) ?_
    show own_Ends _ _ _ _ _ _ _ T56 (mkF m 169 #[.val (.int p1), .val (.ref b1), .val (.ref r7), .val (.int (0 : Int32)), .val (.int (0 : Int32))] [(.int (1 : Int32))])
    refine own_retN X56 hx (t := .boolean) Bd.returns (by simp) (hb hby at_169) hlk (by decide) (by decide) (w := (1 : Int32)) (by decide) ?_
    show Q_rm_law Z p1 r0 r1 r2 r3 r4 r5 r6 r7 r8 r9 r10 r11 r12 r13 r14 h0 n0 _ T56.heap _
    rw [e56]
    exact ⟨rfl, N56⟩
  · rw [ej]
    show own_Ends _ _ _ _ _ _ _ T31 (mkF m 113 #[.val (.int p1), .val (.ref b1), .unset, .unset, .unset] [(.int (8 : Int32)), (.ref b1)])
    have hin := inb_of (j := (8 : Int32)) Sz ⟨by decide, by decide⟩
    refine own_st (fun _ kq => X31.aaload hx (j := (8 : Int32)) (v := (.ref r8)) (by rw [e31]; exact Ar.1) (State.isArrayOf_alike hZ.alike Ar.2.1) rfl Ar.2.2 hin (Hv.at hin rfl) (g := (mkF m 113 #[.val (.int p1), .val (.ref b1), .unset, .unset, .unset] [(.int (8 : Int32)), (.ref b1)])) rfl rfl (hb hby at_113) _ kq) ?_
    show own_Ends _ _ _ _ _ _ _ T31 (mkF m 114 #[.val (.int p1), .val (.ref b1), .unset, .unset, .unset] [(.ref r8)])
    refine own_st (fun _ kq => XS.astoreN X31.here hx rfl (hb hby at_114) rfl rfl (l' := #[.val (.int p1), .val (.ref b1), .val (.ref r8), .unset, .unset]) rfl kq) ?_
    show own_Ends _ _ _ _ _ _ _ T31 (mkF m 115 #[.val (.int p1), .val (.ref b1), .val (.ref r8), .unset, .unset] [])
    refine own_st (fun _ kq => XS.aloadN X31.here hx rfl (hb hby at_115) rfl rfl kq) ?_
    show own_Ends _ _ _ _ _ _ _ T31 (mkF m 116 #[.val (.int p1), .val (.ref b1), .val (.ref r8), .unset, .unset] [(.ref r8)])
    obtain ⟨T57, X57, e57, st57⟩ := getF X31 hx hZ hown (host := "") (Or.inl (hw _ (List.mem_of_getElem? (i := 35) rfl))) Via.refl e31 (F_8_opcode.ext O31.2) (g := (mkF m 116 #[.val (.int p1), .val (.ref b1), .val (.ref r8), .unset, .unset] [(.ref r8)])) rfl rfl (hb hby at_116)
    refine own_st st57 ?_
    show own_Ends _ _ _ _ _ _ _ T57 (mkF m 119 #[.val (.int p1), .val (.ref b1), .val (.ref r8), .unset, .unset] [(.int (18 : Int32))])
    refine own_st (fun _ kq => XS.bipush X57.here hx rfl (hb hby at_119) kq) ?_
    show own_Ends _ _ _ _ _ _ _ T57 (mkF m 121 #[.val (.int p1), .val (.ref b1), .val (.ref r8), .unset, .unset] [(.int (7 : Int32)), (.int (18 : Int32))])
    refine own_st (fun _ kq => XS.icmpNo X57.here hx rfl (hb hby at_121) rfl (feq (by decide : ¬ ((18 : Int32) = (7 : Int32)))).1 kq) ?_
    show own_Ends _ _ _ _ _ _ _ T57 (mkF m 124 #[.val (.int p1), .val (.ref b1), .val (.ref r8), .unset, .unset] [])
    refine own_st (fun _ kq => XS.aloadN X57.here hx rfl (hb hby at_124) rfl rfl kq) ?_
    show own_Ends _ _ _ _ _ _ _ T57 (mkF m 125 #[.val (.int p1), .val (.ref b1), .val (.ref r8), .unset, .unset] [(.ref r8)])
    obtain ⟨T58, X58, e58, st58⟩ := getF X57 hx hZ hown (host := "") (Or.inl (hw _ (List.mem_of_getElem? (i := 35) rfl))) Via.refl e57 (F_8_opcode.ext O31.2) (g := (mkF m 125 #[.val (.int p1), .val (.ref b1), .val (.ref r8), .unset, .unset] [(.ref r8)])) rfl rfl (hb hby at_125)
    refine own_st st58 ?_
    show own_Ends _ _ _ _ _ _ _ T58 (mkF m 128 #[.val (.int p1), .val (.ref b1), .val (.ref r8), .unset, .unset] [(.int (18 : Int32))])
    refine own_st (fun _ kq => XS.bipush X58.here hx rfl (hb hby at_128) kq) ?_
    show own_Ends _ _ _ _ _ _ _ T58 (mkF m 130 #[.val (.int p1), .val (.ref b1), .val (.ref r8), .unset, .unset] [(.int (8 : Int32)), (.int (18 : Int32))])
    refine own_st (fun _ kq => XS.icmpYes X58.here hx rfl (pc0 := 130) (pc' := 137) rfl (hb hby at_130) rfl (feq (by decide : ¬ ((18 : Int32) = (8 : Int32)))).2 (by decide) (by decide) kq) ?_
    show own_Ends _ _ _ _ _ _ _ T58 (mkF m 137 #[.val (.int p1), .val (.ref b1), .val (.ref r8), .unset, .unset] [])
    refine own_st (fun _ kq => XS.iconst X58.here hx rfl (hb hby at_137) kq) ?_
    show own_Ends _ _ _ _ _ _ _ T58 (mkF m 138 #[.val (.int p1), .val (.ref b1), .val (.ref r8), .unset, .unset] [(.int (0 : Int32))])
    refine own_st (fun _ kq => XS.istoreN X58.here hx rfl (hb hby at_138) rfl (l' := #[.val (.int p1), .val (.ref b1), .val (.ref r8), .val (.int (0 : Int32)), .unset]) rfl kq) ?_
    show own_Ends _ _ _ _ _ _ _ T58 (mkF m 139 #[.val (.int p1), .val (.ref b1), .val (.ref r8), .val (.int (0 : Int32)), .unset] [])
    refine own_st (fun _ kq => XS.aloadN X58.here hx rfl (hb hby at_139) rfl rfl kq) ?_
    show own_Ends _ _ _ _ _ _ _ T58 (mkF m 140 #[.val (.int p1), .val (.ref b1), .val (.ref r8), .val (.int (0 : Int32)), .unset] [(.ref r8)])
    obtain ⟨cq59, kq59, q59a, q59b, q59c⟩ := isOf hZ e58 (E_8.ext O31.2)
    obtain ⟨_, _, ⟨T59, L59, k59, n59⟩, -, X59, ⟨Lc59, hQ59, l59, y59, z59⟩, st59⟩ := X58.virtualBack hx (y := (⟨"com/example/mimsy/mimsy/wabe/Operator", "shortCircuits", "()Z"⟩ : MethodName)) (z := (⟨"com/example/mimsy/mimsy/wabe/Operator", "shortCircuits", "()Z"⟩ : MethodName)) hown (mvT hZ (hw _ (List.mem_of_getElem? (i := 37) rfl))) (mvT hZ (hw _ (List.mem_of_getElem? (i := 38) rfl))) (notFace_of_selects (args := #[]) (mvT hZ (hw _ (List.mem_of_getElem? (i := 40) rfl)))) (mvT hZ (hw _ (List.mem_of_getElem? (i := 40) rfl))) (mvT hZ (hw _ (List.mem_of_getElem? (i := 39) rfl))) (by decide) (backOf (W := 0) (rm_sc l Z a0 hw [] r8 (0 : Int32) r0 r1 r2 r3 r4 r5 r6 r7 r8 r9 r10 r11 r12 r13 r14 h31 n0 O31 (if_neg (fun q => q.elim (F_8_opcode.ne F_5_opcode (by decide)) (F_8_opcode.ne F_6_opcode (by decide)))) G) hZ (hw _ (List.mem_of_getElem? (i := 41) rfl)) (hw _ (List.mem_of_getElem? (i := 3) rfl)) (by decide) (by decide)) q59a q59c (g := (mkF m 140 #[.val (.int p1), .val (.ref b1), .val (.ref r8), .val (.int (0 : Int32)), .unset] [(.ref r8)])) rfl (by rw [hml]; rfl) (Steps.refl _) (argsL := []) (rest := []) (lenOf pd_0 rfl) rfl (by show 2 * 0 + _ ≤ _; exact Nat.le_of_eq rfl) (hb hby at_140) (fun _ _ => ⟨rfl, e58, (by decide : 1 + 0 ≤ _), (by decide : 15 + 0 ≤ _)⟩)
    dsimp only [Pt.U, Pt.locs, Pt.cells, Pt.slots] at X59 l59 y59 z59 st59 hQ59
    subst l59 y59 z59
    obtain ⟨rfl, N59q, e59⟩ := hQ59
    have N59 := Fr.app N31 N59q
    refine own_tr st59 ?_
    show own_Ends _ _ _ _ _ _ _ T59 (mkF m 143 #[.val (.int p1), .val (.ref b1), .val (.ref r8), .val (.int (0 : Int32)), .unset] [(.int (0 : Int32))])
    refine own_st (fun _ kq => XS.istore X59.here hx rfl (hb hby at_143) rfl (l' := #[.val (.int p1), .val (.ref b1), .val (.ref r8), .val (.int (0 : Int32)), .val (.int (0 : Int32))]) rfl kq) ?_
    show own_Ends _ _ _ _ _ _ _ T59 (mkF m 145 #[.val (.int p1), .val (.ref b1), .val (.ref r8), .val (.int (0 : Int32)), .val (.int (0 : Int32))] [])
    refine own_st (fun _ kq => XS.iload X59.here hx rfl (hb hby at_145) rfl kq) ?_
    show own_Ends _ _ _ _ _ _ _ T59 (mkF m 147 #[.val (.int p1), .val (.ref b1), .val (.ref r8), .val (.int (0 : Int32)), .val (.int (0 : Int32))] [(.int (0 : Int32))])
    refine own_st (fun _ kq => XS.iloadN X59.here hx rfl (hb hby at_147) rfl kq) ?_
    show own_Ends _ _ _ _ _ _ _ T59 (mkF m 148 #[.val (.int p1), .val (.ref b1), .val (.ref r8), .val (.int (0 : Int32)), .val (.int (0 : Int32))] [(.int (0 : Int32)), (.int (0 : Int32))])
    refine own_st (fun _ kq => XS.icmpNo X59.here hx rfl (hb hby at_148) rfl (teq (by decide : (0 : Int32) = (0 : Int32))).2 kq) ?_
    show own_Ends _ _ _ _ _ _ _ T59 (mkF m 151 #[.val (.int p1), .val (.ref b1), .val (.ref r8), .val (.int (0 : Int32)), .val (.int (0 : Int32))] [])
    refine own_st (fun _ kq => XS.iload X59.here hx rfl (hb hby at_151) rfl kq) ?_
    show own_Ends _ _ _ _ _ _ _ T59 (mkF m 153 #[.val (.int p1), .val (.ref b1), .val (.ref r8), .val (.int (0 : Int32)), .val (.int (0 : Int32))] [(.int (0 : Int32))])
    refine own_st (fun _ kq => XS.ifYes X59.here hx rfl (pc0 := 153) (pc' := 164) rfl (hb hby at_153) rfl ((if0 _ _).trans (teq (by decide : (0 : Int32) = (0 : Int32))).1) (by decide) (by decide) kq) ?_
    show own_Ends _ _ _ _ _ _ _ T59 (mkF m 164 #[.val (.int p1), .val (.ref b1), .val (.ref r8), .val (.int (0 : Int32)), .val (.int (0 : Int32))] [])
    refine own_st (fun _ kq => XS.iconst X59.here hx rfl (hb hby at_164) kq) ?_
    show own_Ends _ _ _ _ _ _ _ T59 (mkF m 165 #[.val (.int p1), .val (.ref b1), .val (.ref r8), .val (.int (0 : Int32)), .val (.int (0 : Int32))] [(.int (1 : Int32))])
    refine own_st (fun _ kq => XS.goto X59.here hx rfl (pc0 := 165) (pc' := 169) rfl (hb hby at_165) (by decide) (by decide) kq) ?_
    show own_Ends _ _ _ _ _ _ _ T59 (mkF m 169 #[.val (.int p1), .val (.ref b1), .val (.ref r8), .val (.int (0 : Int32)), .val (.int (0 : Int32))] [(.int (1 : Int32))])
    refine own_retN X59 hx (t := .boolean) Bd.returns (by simp) (hb hby at_169) hlk (by decide) (by decide) (w := (1 : Int32)) (by decide) ?_
    show Q_rm_law Z p1 r0 r1 r2 r3 r4 r5 r6 r7 r8 r9 r10 r11 r12 r13 r14 h0 n0 _ T59.heap _
    rw [e59]
    exact ⟨rfl, N59⟩
  · rw [ej]
    show own_Ends _ _ _ _ _ _ _ T31 (mkF m 113 #[.val (.int p1), .val (.ref b1), .unset, .unset, .unset] [(.int (9 : Int32)), (.ref b1)])
    have hin := inb_of (j := (9 : Int32)) Sz ⟨by decide, by decide⟩
    refine own_st (fun _ kq => X31.aaload hx (j := (9 : Int32)) (v := (.ref r9)) (by rw [e31]; exact Ar.1) (State.isArrayOf_alike hZ.alike Ar.2.1) rfl Ar.2.2 hin (Hv.at hin rfl) (g := (mkF m 113 #[.val (.int p1), .val (.ref b1), .unset, .unset, .unset] [(.int (9 : Int32)), (.ref b1)])) rfl rfl (hb hby at_113) _ kq) ?_
    show own_Ends _ _ _ _ _ _ _ T31 (mkF m 114 #[.val (.int p1), .val (.ref b1), .unset, .unset, .unset] [(.ref r9)])
    refine own_st (fun _ kq => XS.astoreN X31.here hx rfl (hb hby at_114) rfl rfl (l' := #[.val (.int p1), .val (.ref b1), .val (.ref r9), .unset, .unset]) rfl kq) ?_
    show own_Ends _ _ _ _ _ _ _ T31 (mkF m 115 #[.val (.int p1), .val (.ref b1), .val (.ref r9), .unset, .unset] [])
    refine own_st (fun _ kq => XS.aloadN X31.here hx rfl (hb hby at_115) rfl rfl kq) ?_
    show own_Ends _ _ _ _ _ _ _ T31 (mkF m 116 #[.val (.int p1), .val (.ref b1), .val (.ref r9), .unset, .unset] [(.ref r9)])
    obtain ⟨T60, X60, e60, st60⟩ := getF X31 hx hZ hown (host := "") (Or.inl (hw _ (List.mem_of_getElem? (i := 35) rfl))) Via.refl e31 (F_9_opcode.ext O31.2) (g := (mkF m 116 #[.val (.int p1), .val (.ref b1), .val (.ref r9), .unset, .unset] [(.ref r9)])) rfl rfl (hb hby at_116)
    refine own_st st60 ?_
    show own_Ends _ _ _ _ _ _ _ T60 (mkF m 119 #[.val (.int p1), .val (.ref b1), .val (.ref r9), .unset, .unset] [(.int (19 : Int32))])
    refine own_st (fun _ kq => XS.bipush X60.here hx rfl (hb hby at_119) kq) ?_
    show own_Ends _ _ _ _ _ _ _ T60 (mkF m 121 #[.val (.int p1), .val (.ref b1), .val (.ref r9), .unset, .unset] [(.int (7 : Int32)), (.int (19 : Int32))])
    refine own_st (fun _ kq => XS.icmpNo X60.here hx rfl (hb hby at_121) rfl (feq (by decide : ¬ ((19 : Int32) = (7 : Int32)))).1 kq) ?_
    show own_Ends _ _ _ _ _ _ _ T60 (mkF m 124 #[.val (.int p1), .val (.ref b1), .val (.ref r9), .unset, .unset] [])
    refine own_st (fun _ kq => XS.aloadN X60.here hx rfl (hb hby at_124) rfl rfl kq) ?_
    show own_Ends _ _ _ _ _ _ _ T60 (mkF m 125 #[.val (.int p1), .val (.ref b1), .val (.ref r9), .unset, .unset] [(.ref r9)])
    obtain ⟨T61, X61, e61, st61⟩ := getF X60 hx hZ hown (host := "") (Or.inl (hw _ (List.mem_of_getElem? (i := 35) rfl))) Via.refl e60 (F_9_opcode.ext O31.2) (g := (mkF m 125 #[.val (.int p1), .val (.ref b1), .val (.ref r9), .unset, .unset] [(.ref r9)])) rfl rfl (hb hby at_125)
    refine own_st st61 ?_
    show own_Ends _ _ _ _ _ _ _ T61 (mkF m 128 #[.val (.int p1), .val (.ref b1), .val (.ref r9), .unset, .unset] [(.int (19 : Int32))])
    refine own_st (fun _ kq => XS.bipush X61.here hx rfl (hb hby at_128) kq) ?_
    show own_Ends _ _ _ _ _ _ _ T61 (mkF m 130 #[.val (.int p1), .val (.ref b1), .val (.ref r9), .unset, .unset] [(.int (8 : Int32)), (.int (19 : Int32))])
    refine own_st (fun _ kq => XS.icmpYes X61.here hx rfl (pc0 := 130) (pc' := 137) rfl (hb hby at_130) rfl (feq (by decide : ¬ ((19 : Int32) = (8 : Int32)))).2 (by decide) (by decide) kq) ?_
    show own_Ends _ _ _ _ _ _ _ T61 (mkF m 137 #[.val (.int p1), .val (.ref b1), .val (.ref r9), .unset, .unset] [])
    refine own_st (fun _ kq => XS.iconst X61.here hx rfl (hb hby at_137) kq) ?_
    show own_Ends _ _ _ _ _ _ _ T61 (mkF m 138 #[.val (.int p1), .val (.ref b1), .val (.ref r9), .unset, .unset] [(.int (0 : Int32))])
    refine own_st (fun _ kq => XS.istoreN X61.here hx rfl (hb hby at_138) rfl (l' := #[.val (.int p1), .val (.ref b1), .val (.ref r9), .val (.int (0 : Int32)), .unset]) rfl kq) ?_
    show own_Ends _ _ _ _ _ _ _ T61 (mkF m 139 #[.val (.int p1), .val (.ref b1), .val (.ref r9), .val (.int (0 : Int32)), .unset] [])
    refine own_st (fun _ kq => XS.aloadN X61.here hx rfl (hb hby at_139) rfl rfl kq) ?_
    show own_Ends _ _ _ _ _ _ _ T61 (mkF m 140 #[.val (.int p1), .val (.ref b1), .val (.ref r9), .val (.int (0 : Int32)), .unset] [(.ref r9)])
    obtain ⟨cq62, kq62, q62a, q62b, q62c⟩ := isOf hZ e61 (E_9.ext O31.2)
    obtain ⟨_, _, ⟨T62, L62, k62, n62⟩, -, X62, ⟨Lc62, hQ62, l62, y62, z62⟩, st62⟩ := X61.virtualBack hx (y := (⟨"com/example/mimsy/mimsy/wabe/Operator", "shortCircuits", "()Z"⟩ : MethodName)) (z := (⟨"com/example/mimsy/mimsy/wabe/Operator", "shortCircuits", "()Z"⟩ : MethodName)) hown (mvT hZ (hw _ (List.mem_of_getElem? (i := 37) rfl))) (mvT hZ (hw _ (List.mem_of_getElem? (i := 38) rfl))) (notFace_of_selects (args := #[]) (mvT hZ (hw _ (List.mem_of_getElem? (i := 40) rfl)))) (mvT hZ (hw _ (List.mem_of_getElem? (i := 40) rfl))) (mvT hZ (hw _ (List.mem_of_getElem? (i := 39) rfl))) (by decide) (backOf (W := 0) (rm_sc l Z a0 hw [] r9 (0 : Int32) r0 r1 r2 r3 r4 r5 r6 r7 r8 r9 r10 r11 r12 r13 r14 h31 n0 O31 (if_neg (fun q => q.elim (F_9_opcode.ne F_5_opcode (by decide)) (F_9_opcode.ne F_6_opcode (by decide)))) G) hZ (hw _ (List.mem_of_getElem? (i := 41) rfl)) (hw _ (List.mem_of_getElem? (i := 3) rfl)) (by decide) (by decide)) q62a q62c (g := (mkF m 140 #[.val (.int p1), .val (.ref b1), .val (.ref r9), .val (.int (0 : Int32)), .unset] [(.ref r9)])) rfl (by rw [hml]; rfl) (Steps.refl _) (argsL := []) (rest := []) (lenOf pd_0 rfl) rfl (by show 2 * 0 + _ ≤ _; exact Nat.le_of_eq rfl) (hb hby at_140) (fun _ _ => ⟨rfl, e61, (by decide : 1 + 0 ≤ _), (by decide : 15 + 0 ≤ _)⟩)
    dsimp only [Pt.U, Pt.locs, Pt.cells, Pt.slots] at X62 l62 y62 z62 st62 hQ62
    subst l62 y62 z62
    obtain ⟨rfl, N62q, e62⟩ := hQ62
    have N62 := Fr.app N31 N62q
    refine own_tr st62 ?_
    show own_Ends _ _ _ _ _ _ _ T62 (mkF m 143 #[.val (.int p1), .val (.ref b1), .val (.ref r9), .val (.int (0 : Int32)), .unset] [(.int (0 : Int32))])
    refine own_st (fun _ kq => XS.istore X62.here hx rfl (hb hby at_143) rfl (l' := #[.val (.int p1), .val (.ref b1), .val (.ref r9), .val (.int (0 : Int32)), .val (.int (0 : Int32))]) rfl kq) ?_
    show own_Ends _ _ _ _ _ _ _ T62 (mkF m 145 #[.val (.int p1), .val (.ref b1), .val (.ref r9), .val (.int (0 : Int32)), .val (.int (0 : Int32))] [])
    refine own_st (fun _ kq => XS.iload X62.here hx rfl (hb hby at_145) rfl kq) ?_
    show own_Ends _ _ _ _ _ _ _ T62 (mkF m 147 #[.val (.int p1), .val (.ref b1), .val (.ref r9), .val (.int (0 : Int32)), .val (.int (0 : Int32))] [(.int (0 : Int32))])
    refine own_st (fun _ kq => XS.iloadN X62.here hx rfl (hb hby at_147) rfl kq) ?_
    show own_Ends _ _ _ _ _ _ _ T62 (mkF m 148 #[.val (.int p1), .val (.ref b1), .val (.ref r9), .val (.int (0 : Int32)), .val (.int (0 : Int32))] [(.int (0 : Int32)), (.int (0 : Int32))])
    refine own_st (fun _ kq => XS.icmpNo X62.here hx rfl (hb hby at_148) rfl (teq (by decide : (0 : Int32) = (0 : Int32))).2 kq) ?_
    show own_Ends _ _ _ _ _ _ _ T62 (mkF m 151 #[.val (.int p1), .val (.ref b1), .val (.ref r9), .val (.int (0 : Int32)), .val (.int (0 : Int32))] [])
    refine own_st (fun _ kq => XS.iload X62.here hx rfl (hb hby at_151) rfl kq) ?_
    show own_Ends _ _ _ _ _ _ _ T62 (mkF m 153 #[.val (.int p1), .val (.ref b1), .val (.ref r9), .val (.int (0 : Int32)), .val (.int (0 : Int32))] [(.int (0 : Int32))])
    refine own_st (fun _ kq => XS.ifYes X62.here hx rfl (pc0 := 153) (pc' := 164) rfl (hb hby at_153) rfl ((if0 _ _).trans (teq (by decide : (0 : Int32) = (0 : Int32))).1) (by decide) (by decide) kq) ?_
    show own_Ends _ _ _ _ _ _ _ T62 (mkF m 164 #[.val (.int p1), .val (.ref b1), .val (.ref r9), .val (.int (0 : Int32)), .val (.int (0 : Int32))] [])
    refine own_st (fun _ kq => XS.iconst X62.here hx rfl (hb hby at_164) kq) ?_
    show own_Ends _ _ _ _ _ _ _ T62 (mkF m 165 #[.val (.int p1), .val (.ref b1), .val (.ref r9), .val (.int (0 : Int32)), .val (.int (0 : Int32))] [(.int (1 : Int32))])
    refine own_st (fun _ kq => XS.goto X62.here hx rfl (pc0 := 165) (pc' := 169) rfl (hb hby at_165) (by decide) (by decide) kq) ?_
    show own_Ends _ _ _ _ _ _ _ T62 (mkF m 169 #[.val (.int p1), .val (.ref b1), .val (.ref r9), .val (.int (0 : Int32)), .val (.int (0 : Int32))] [(.int (1 : Int32))])
    refine own_retN X62 hx (t := .boolean) Bd.returns (by simp) (hb hby at_169) hlk (by decide) (by decide) (w := (1 : Int32)) (by decide) ?_
    show Q_rm_law Z p1 r0 r1 r2 r3 r4 r5 r6 r7 r8 r9 r10 r11 r12 r13 r14 h0 n0 _ T62.heap _
    rw [e62]
    exact ⟨rfl, N62⟩
  · rw [ej]
    show own_Ends _ _ _ _ _ _ _ T31 (mkF m 113 #[.val (.int p1), .val (.ref b1), .unset, .unset, .unset] [(.int (10 : Int32)), (.ref b1)])
    have hin := inb_of (j := (10 : Int32)) Sz ⟨by decide, by decide⟩
    refine own_st (fun _ kq => X31.aaload hx (j := (10 : Int32)) (v := (.ref r10)) (by rw [e31]; exact Ar.1) (State.isArrayOf_alike hZ.alike Ar.2.1) rfl Ar.2.2 hin (Hv.at hin rfl) (g := (mkF m 113 #[.val (.int p1), .val (.ref b1), .unset, .unset, .unset] [(.int (10 : Int32)), (.ref b1)])) rfl rfl (hb hby at_113) _ kq) ?_
    show own_Ends _ _ _ _ _ _ _ T31 (mkF m 114 #[.val (.int p1), .val (.ref b1), .unset, .unset, .unset] [(.ref r10)])
    refine own_st (fun _ kq => XS.astoreN X31.here hx rfl (hb hby at_114) rfl rfl (l' := #[.val (.int p1), .val (.ref b1), .val (.ref r10), .unset, .unset]) rfl kq) ?_
    show own_Ends _ _ _ _ _ _ _ T31 (mkF m 115 #[.val (.int p1), .val (.ref b1), .val (.ref r10), .unset, .unset] [])
    refine own_st (fun _ kq => XS.aloadN X31.here hx rfl (hb hby at_115) rfl rfl kq) ?_
    show own_Ends _ _ _ _ _ _ _ T31 (mkF m 116 #[.val (.int p1), .val (.ref b1), .val (.ref r10), .unset, .unset] [(.ref r10)])
    obtain ⟨T63, X63, e63, st63⟩ := getF X31 hx hZ hown (host := "") (Or.inl (hw _ (List.mem_of_getElem? (i := 35) rfl))) Via.refl e31 (F_10_opcode.ext O31.2) (g := (mkF m 116 #[.val (.int p1), .val (.ref b1), .val (.ref r10), .unset, .unset] [(.ref r10)])) rfl rfl (hb hby at_116)
    refine own_st st63 ?_
    show own_Ends _ _ _ _ _ _ _ T63 (mkF m 119 #[.val (.int p1), .val (.ref b1), .val (.ref r10), .unset, .unset] [(.int (20 : Int32))])
    refine own_st (fun _ kq => XS.bipush X63.here hx rfl (hb hby at_119) kq) ?_
    show own_Ends _ _ _ _ _ _ _ T63 (mkF m 121 #[.val (.int p1), .val (.ref b1), .val (.ref r10), .unset, .unset] [(.int (7 : Int32)), (.int (20 : Int32))])
    refine own_st (fun _ kq => XS.icmpNo X63.here hx rfl (hb hby at_121) rfl (feq (by decide : ¬ ((20 : Int32) = (7 : Int32)))).1 kq) ?_
    show own_Ends _ _ _ _ _ _ _ T63 (mkF m 124 #[.val (.int p1), .val (.ref b1), .val (.ref r10), .unset, .unset] [])
    refine own_st (fun _ kq => XS.aloadN X63.here hx rfl (hb hby at_124) rfl rfl kq) ?_
    show own_Ends _ _ _ _ _ _ _ T63 (mkF m 125 #[.val (.int p1), .val (.ref b1), .val (.ref r10), .unset, .unset] [(.ref r10)])
    obtain ⟨T64, X64, e64, st64⟩ := getF X63 hx hZ hown (host := "") (Or.inl (hw _ (List.mem_of_getElem? (i := 35) rfl))) Via.refl e63 (F_10_opcode.ext O31.2) (g := (mkF m 125 #[.val (.int p1), .val (.ref b1), .val (.ref r10), .unset, .unset] [(.ref r10)])) rfl rfl (hb hby at_125)
    refine own_st st64 ?_
    show own_Ends _ _ _ _ _ _ _ T64 (mkF m 128 #[.val (.int p1), .val (.ref b1), .val (.ref r10), .unset, .unset] [(.int (20 : Int32))])
    refine own_st (fun _ kq => XS.bipush X64.here hx rfl (hb hby at_128) kq) ?_
    show own_Ends _ _ _ _ _ _ _ T64 (mkF m 130 #[.val (.int p1), .val (.ref b1), .val (.ref r10), .unset, .unset] [(.int (8 : Int32)), (.int (20 : Int32))])
    refine own_st (fun _ kq => XS.icmpYes X64.here hx rfl (pc0 := 130) (pc' := 137) rfl (hb hby at_130) rfl (feq (by decide : ¬ ((20 : Int32) = (8 : Int32)))).2 (by decide) (by decide) kq) ?_
    show own_Ends _ _ _ _ _ _ _ T64 (mkF m 137 #[.val (.int p1), .val (.ref b1), .val (.ref r10), .unset, .unset] [])
    refine own_st (fun _ kq => XS.iconst X64.here hx rfl (hb hby at_137) kq) ?_
    show own_Ends _ _ _ _ _ _ _ T64 (mkF m 138 #[.val (.int p1), .val (.ref b1), .val (.ref r10), .unset, .unset] [(.int (0 : Int32))])
    refine own_st (fun _ kq => XS.istoreN X64.here hx rfl (hb hby at_138) rfl (l' := #[.val (.int p1), .val (.ref b1), .val (.ref r10), .val (.int (0 : Int32)), .unset]) rfl kq) ?_
    show own_Ends _ _ _ _ _ _ _ T64 (mkF m 139 #[.val (.int p1), .val (.ref b1), .val (.ref r10), .val (.int (0 : Int32)), .unset] [])
    refine own_st (fun _ kq => XS.aloadN X64.here hx rfl (hb hby at_139) rfl rfl kq) ?_
    show own_Ends _ _ _ _ _ _ _ T64 (mkF m 140 #[.val (.int p1), .val (.ref b1), .val (.ref r10), .val (.int (0 : Int32)), .unset] [(.ref r10)])
    obtain ⟨cq65, kq65, q65a, q65b, q65c⟩ := isOf hZ e64 (E_10.ext O31.2)
    obtain ⟨_, _, ⟨T65, L65, k65, n65⟩, -, X65, ⟨Lc65, hQ65, l65, y65, z65⟩, st65⟩ := X64.virtualBack hx (y := (⟨"com/example/mimsy/mimsy/wabe/Operator", "shortCircuits", "()Z"⟩ : MethodName)) (z := (⟨"com/example/mimsy/mimsy/wabe/Operator", "shortCircuits", "()Z"⟩ : MethodName)) hown (mvT hZ (hw _ (List.mem_of_getElem? (i := 37) rfl))) (mvT hZ (hw _ (List.mem_of_getElem? (i := 38) rfl))) (notFace_of_selects (args := #[]) (mvT hZ (hw _ (List.mem_of_getElem? (i := 40) rfl)))) (mvT hZ (hw _ (List.mem_of_getElem? (i := 40) rfl))) (mvT hZ (hw _ (List.mem_of_getElem? (i := 39) rfl))) (by decide) (backOf (W := 0) (rm_sc l Z a0 hw [] r10 (0 : Int32) r0 r1 r2 r3 r4 r5 r6 r7 r8 r9 r10 r11 r12 r13 r14 h31 n0 O31 (if_neg (fun q => q.elim (F_10_opcode.ne F_5_opcode (by decide)) (F_10_opcode.ne F_6_opcode (by decide)))) G) hZ (hw _ (List.mem_of_getElem? (i := 41) rfl)) (hw _ (List.mem_of_getElem? (i := 3) rfl)) (by decide) (by decide)) q65a q65c (g := (mkF m 140 #[.val (.int p1), .val (.ref b1), .val (.ref r10), .val (.int (0 : Int32)), .unset] [(.ref r10)])) rfl (by rw [hml]; rfl) (Steps.refl _) (argsL := []) (rest := []) (lenOf pd_0 rfl) rfl (by show 2 * 0 + _ ≤ _; exact Nat.le_of_eq rfl) (hb hby at_140) (fun _ _ => ⟨rfl, e64, (by decide : 1 + 0 ≤ _), (by decide : 15 + 0 ≤ _)⟩)
    dsimp only [Pt.U, Pt.locs, Pt.cells, Pt.slots] at X65 l65 y65 z65 st65 hQ65
    subst l65 y65 z65
    obtain ⟨rfl, N65q, e65⟩ := hQ65
    have N65 := Fr.app N31 N65q
    refine own_tr st65 ?_
    show own_Ends _ _ _ _ _ _ _ T65 (mkF m 143 #[.val (.int p1), .val (.ref b1), .val (.ref r10), .val (.int (0 : Int32)), .unset] [(.int (0 : Int32))])
    refine own_st (fun _ kq => XS.istore X65.here hx rfl (hb hby at_143) rfl (l' := #[.val (.int p1), .val (.ref b1), .val (.ref r10), .val (.int (0 : Int32)), .val (.int (0 : Int32))]) rfl kq) ?_
    show own_Ends _ _ _ _ _ _ _ T65 (mkF m 145 #[.val (.int p1), .val (.ref b1), .val (.ref r10), .val (.int (0 : Int32)), .val (.int (0 : Int32))] [])
    refine own_st (fun _ kq => XS.iload X65.here hx rfl (hb hby at_145) rfl kq) ?_
    show own_Ends _ _ _ _ _ _ _ T65 (mkF m 147 #[.val (.int p1), .val (.ref b1), .val (.ref r10), .val (.int (0 : Int32)), .val (.int (0 : Int32))] [(.int (0 : Int32))])
    refine own_st (fun _ kq => XS.iloadN X65.here hx rfl (hb hby at_147) rfl kq) ?_
    show own_Ends _ _ _ _ _ _ _ T65 (mkF m 148 #[.val (.int p1), .val (.ref b1), .val (.ref r10), .val (.int (0 : Int32)), .val (.int (0 : Int32))] [(.int (0 : Int32)), (.int (0 : Int32))])
    refine own_st (fun _ kq => XS.icmpNo X65.here hx rfl (hb hby at_148) rfl (teq (by decide : (0 : Int32) = (0 : Int32))).2 kq) ?_
    show own_Ends _ _ _ _ _ _ _ T65 (mkF m 151 #[.val (.int p1), .val (.ref b1), .val (.ref r10), .val (.int (0 : Int32)), .val (.int (0 : Int32))] [])
    refine own_st (fun _ kq => XS.iload X65.here hx rfl (hb hby at_151) rfl kq) ?_
    show own_Ends _ _ _ _ _ _ _ T65 (mkF m 153 #[.val (.int p1), .val (.ref b1), .val (.ref r10), .val (.int (0 : Int32)), .val (.int (0 : Int32))] [(.int (0 : Int32))])
    refine own_st (fun _ kq => XS.ifYes X65.here hx rfl (pc0 := 153) (pc' := 164) rfl (hb hby at_153) rfl ((if0 _ _).trans (teq (by decide : (0 : Int32) = (0 : Int32))).1) (by decide) (by decide) kq) ?_
    show own_Ends _ _ _ _ _ _ _ T65 (mkF m 164 #[.val (.int p1), .val (.ref b1), .val (.ref r10), .val (.int (0 : Int32)), .val (.int (0 : Int32))] [])
    refine own_st (fun _ kq => XS.iconst X65.here hx rfl (hb hby at_164) kq) ?_
    show own_Ends _ _ _ _ _ _ _ T65 (mkF m 165 #[.val (.int p1), .val (.ref b1), .val (.ref r10), .val (.int (0 : Int32)), .val (.int (0 : Int32))] [(.int (1 : Int32))])
    refine own_st (fun _ kq => XS.goto X65.here hx rfl (pc0 := 165) (pc' := 169) rfl (hb hby at_165) (by decide) (by decide) kq) ?_
    show own_Ends _ _ _ _ _ _ _ T65 (mkF m 169 #[.val (.int p1), .val (.ref b1), .val (.ref r10), .val (.int (0 : Int32)), .val (.int (0 : Int32))] [(.int (1 : Int32))])
    refine own_retN X65 hx (t := .boolean) Bd.returns (by simp) (hb hby at_169) hlk (by decide) (by decide) (w := (1 : Int32)) (by decide) ?_
    show Q_rm_law Z p1 r0 r1 r2 r3 r4 r5 r6 r7 r8 r9 r10 r11 r12 r13 r14 h0 n0 _ T65.heap _
    rw [e65]
    exact ⟨rfl, N65⟩
  · rw [ej]
    show own_Ends _ _ _ _ _ _ _ T31 (mkF m 113 #[.val (.int p1), .val (.ref b1), .unset, .unset, .unset] [(.int (11 : Int32)), (.ref b1)])
    have hin := inb_of (j := (11 : Int32)) Sz ⟨by decide, by decide⟩
    refine own_st (fun _ kq => X31.aaload hx (j := (11 : Int32)) (v := (.ref r11)) (by rw [e31]; exact Ar.1) (State.isArrayOf_alike hZ.alike Ar.2.1) rfl Ar.2.2 hin (Hv.at hin rfl) (g := (mkF m 113 #[.val (.int p1), .val (.ref b1), .unset, .unset, .unset] [(.int (11 : Int32)), (.ref b1)])) rfl rfl (hb hby at_113) _ kq) ?_
    show own_Ends _ _ _ _ _ _ _ T31 (mkF m 114 #[.val (.int p1), .val (.ref b1), .unset, .unset, .unset] [(.ref r11)])
    refine own_st (fun _ kq => XS.astoreN X31.here hx rfl (hb hby at_114) rfl rfl (l' := #[.val (.int p1), .val (.ref b1), .val (.ref r11), .unset, .unset]) rfl kq) ?_
    show own_Ends _ _ _ _ _ _ _ T31 (mkF m 115 #[.val (.int p1), .val (.ref b1), .val (.ref r11), .unset, .unset] [])
    refine own_st (fun _ kq => XS.aloadN X31.here hx rfl (hb hby at_115) rfl rfl kq) ?_
    show own_Ends _ _ _ _ _ _ _ T31 (mkF m 116 #[.val (.int p1), .val (.ref b1), .val (.ref r11), .unset, .unset] [(.ref r11)])
    obtain ⟨T66, X66, e66, st66⟩ := getF X31 hx hZ hown (host := "") (Or.inl (hw _ (List.mem_of_getElem? (i := 35) rfl))) Via.refl e31 (F_11_opcode.ext O31.2) (g := (mkF m 116 #[.val (.int p1), .val (.ref b1), .val (.ref r11), .unset, .unset] [(.ref r11)])) rfl rfl (hb hby at_116)
    refine own_st st66 ?_
    show own_Ends _ _ _ _ _ _ _ T66 (mkF m 119 #[.val (.int p1), .val (.ref b1), .val (.ref r11), .unset, .unset] [(.int (21 : Int32))])
    refine own_st (fun _ kq => XS.bipush X66.here hx rfl (hb hby at_119) kq) ?_
    show own_Ends _ _ _ _ _ _ _ T66 (mkF m 121 #[.val (.int p1), .val (.ref b1), .val (.ref r11), .unset, .unset] [(.int (7 : Int32)), (.int (21 : Int32))])
    refine own_st (fun _ kq => XS.icmpNo X66.here hx rfl (hb hby at_121) rfl (feq (by decide : ¬ ((21 : Int32) = (7 : Int32)))).1 kq) ?_
    show own_Ends _ _ _ _ _ _ _ T66 (mkF m 124 #[.val (.int p1), .val (.ref b1), .val (.ref r11), .unset, .unset] [])
    refine own_st (fun _ kq => XS.aloadN X66.here hx rfl (hb hby at_124) rfl rfl kq) ?_
    show own_Ends _ _ _ _ _ _ _ T66 (mkF m 125 #[.val (.int p1), .val (.ref b1), .val (.ref r11), .unset, .unset] [(.ref r11)])
    obtain ⟨T67, X67, e67, st67⟩ := getF X66 hx hZ hown (host := "") (Or.inl (hw _ (List.mem_of_getElem? (i := 35) rfl))) Via.refl e66 (F_11_opcode.ext O31.2) (g := (mkF m 125 #[.val (.int p1), .val (.ref b1), .val (.ref r11), .unset, .unset] [(.ref r11)])) rfl rfl (hb hby at_125)
    refine own_st st67 ?_
    show own_Ends _ _ _ _ _ _ _ T67 (mkF m 128 #[.val (.int p1), .val (.ref b1), .val (.ref r11), .unset, .unset] [(.int (21 : Int32))])
    refine own_st (fun _ kq => XS.bipush X67.here hx rfl (hb hby at_128) kq) ?_
    show own_Ends _ _ _ _ _ _ _ T67 (mkF m 130 #[.val (.int p1), .val (.ref b1), .val (.ref r11), .unset, .unset] [(.int (8 : Int32)), (.int (21 : Int32))])
    refine own_st (fun _ kq => XS.icmpYes X67.here hx rfl (pc0 := 130) (pc' := 137) rfl (hb hby at_130) rfl (feq (by decide : ¬ ((21 : Int32) = (8 : Int32)))).2 (by decide) (by decide) kq) ?_
    show own_Ends _ _ _ _ _ _ _ T67 (mkF m 137 #[.val (.int p1), .val (.ref b1), .val (.ref r11), .unset, .unset] [])
    refine own_st (fun _ kq => XS.iconst X67.here hx rfl (hb hby at_137) kq) ?_
    show own_Ends _ _ _ _ _ _ _ T67 (mkF m 138 #[.val (.int p1), .val (.ref b1), .val (.ref r11), .unset, .unset] [(.int (0 : Int32))])
    refine own_st (fun _ kq => XS.istoreN X67.here hx rfl (hb hby at_138) rfl (l' := #[.val (.int p1), .val (.ref b1), .val (.ref r11), .val (.int (0 : Int32)), .unset]) rfl kq) ?_
    show own_Ends _ _ _ _ _ _ _ T67 (mkF m 139 #[.val (.int p1), .val (.ref b1), .val (.ref r11), .val (.int (0 : Int32)), .unset] [])
    refine own_st (fun _ kq => XS.aloadN X67.here hx rfl (hb hby at_139) rfl rfl kq) ?_
    show own_Ends _ _ _ _ _ _ _ T67 (mkF m 140 #[.val (.int p1), .val (.ref b1), .val (.ref r11), .val (.int (0 : Int32)), .unset] [(.ref r11)])
    obtain ⟨cq68, kq68, q68a, q68b, q68c⟩ := isOf hZ e67 (E_11.ext O31.2)
    obtain ⟨_, _, ⟨T68, L68, k68, n68⟩, -, X68, ⟨Lc68, hQ68, l68, y68, z68⟩, st68⟩ := X67.virtualBack hx (y := (⟨"com/example/mimsy/mimsy/wabe/Operator", "shortCircuits", "()Z"⟩ : MethodName)) (z := (⟨"com/example/mimsy/mimsy/wabe/Operator", "shortCircuits", "()Z"⟩ : MethodName)) hown (mvT hZ (hw _ (List.mem_of_getElem? (i := 37) rfl))) (mvT hZ (hw _ (List.mem_of_getElem? (i := 38) rfl))) (notFace_of_selects (args := #[]) (mvT hZ (hw _ (List.mem_of_getElem? (i := 40) rfl)))) (mvT hZ (hw _ (List.mem_of_getElem? (i := 40) rfl))) (mvT hZ (hw _ (List.mem_of_getElem? (i := 39) rfl))) (by decide) (backOf (W := 0) (rm_sc l Z a0 hw [] r11 (0 : Int32) r0 r1 r2 r3 r4 r5 r6 r7 r8 r9 r10 r11 r12 r13 r14 h31 n0 O31 (if_neg (fun q => q.elim (F_11_opcode.ne F_5_opcode (by decide)) (F_11_opcode.ne F_6_opcode (by decide)))) G) hZ (hw _ (List.mem_of_getElem? (i := 41) rfl)) (hw _ (List.mem_of_getElem? (i := 3) rfl)) (by decide) (by decide)) q68a q68c (g := (mkF m 140 #[.val (.int p1), .val (.ref b1), .val (.ref r11), .val (.int (0 : Int32)), .unset] [(.ref r11)])) rfl (by rw [hml]; rfl) (Steps.refl _) (argsL := []) (rest := []) (lenOf pd_0 rfl) rfl (by show 2 * 0 + _ ≤ _; exact Nat.le_of_eq rfl) (hb hby at_140) (fun _ _ => ⟨rfl, e67, (by decide : 1 + 0 ≤ _), (by decide : 15 + 0 ≤ _)⟩)
    dsimp only [Pt.U, Pt.locs, Pt.cells, Pt.slots] at X68 l68 y68 z68 st68 hQ68
    subst l68 y68 z68
    obtain ⟨rfl, N68q, e68⟩ := hQ68
    have N68 := Fr.app N31 N68q
    refine own_tr st68 ?_
    show own_Ends _ _ _ _ _ _ _ T68 (mkF m 143 #[.val (.int p1), .val (.ref b1), .val (.ref r11), .val (.int (0 : Int32)), .unset] [(.int (0 : Int32))])
    refine own_st (fun _ kq => XS.istore X68.here hx rfl (hb hby at_143) rfl (l' := #[.val (.int p1), .val (.ref b1), .val (.ref r11), .val (.int (0 : Int32)), .val (.int (0 : Int32))]) rfl kq) ?_
    show own_Ends _ _ _ _ _ _ _ T68 (mkF m 145 #[.val (.int p1), .val (.ref b1), .val (.ref r11), .val (.int (0 : Int32)), .val (.int (0 : Int32))] [])
    refine own_st (fun _ kq => XS.iload X68.here hx rfl (hb hby at_145) rfl kq) ?_
    show own_Ends _ _ _ _ _ _ _ T68 (mkF m 147 #[.val (.int p1), .val (.ref b1), .val (.ref r11), .val (.int (0 : Int32)), .val (.int (0 : Int32))] [(.int (0 : Int32))])
    refine own_st (fun _ kq => XS.iloadN X68.here hx rfl (hb hby at_147) rfl kq) ?_
    show own_Ends _ _ _ _ _ _ _ T68 (mkF m 148 #[.val (.int p1), .val (.ref b1), .val (.ref r11), .val (.int (0 : Int32)), .val (.int (0 : Int32))] [(.int (0 : Int32)), (.int (0 : Int32))])
    refine own_st (fun _ kq => XS.icmpNo X68.here hx rfl (hb hby at_148) rfl (teq (by decide : (0 : Int32) = (0 : Int32))).2 kq) ?_
    show own_Ends _ _ _ _ _ _ _ T68 (mkF m 151 #[.val (.int p1), .val (.ref b1), .val (.ref r11), .val (.int (0 : Int32)), .val (.int (0 : Int32))] [])
    refine own_st (fun _ kq => XS.iload X68.here hx rfl (hb hby at_151) rfl kq) ?_
    show own_Ends _ _ _ _ _ _ _ T68 (mkF m 153 #[.val (.int p1), .val (.ref b1), .val (.ref r11), .val (.int (0 : Int32)), .val (.int (0 : Int32))] [(.int (0 : Int32))])
    refine own_st (fun _ kq => XS.ifYes X68.here hx rfl (pc0 := 153) (pc' := 164) rfl (hb hby at_153) rfl ((if0 _ _).trans (teq (by decide : (0 : Int32) = (0 : Int32))).1) (by decide) (by decide) kq) ?_
    show own_Ends _ _ _ _ _ _ _ T68 (mkF m 164 #[.val (.int p1), .val (.ref b1), .val (.ref r11), .val (.int (0 : Int32)), .val (.int (0 : Int32))] [])
    refine own_st (fun _ kq => XS.iconst X68.here hx rfl (hb hby at_164) kq) ?_
    show own_Ends _ _ _ _ _ _ _ T68 (mkF m 165 #[.val (.int p1), .val (.ref b1), .val (.ref r11), .val (.int (0 : Int32)), .val (.int (0 : Int32))] [(.int (1 : Int32))])
    refine own_st (fun _ kq => XS.goto X68.here hx rfl (pc0 := 165) (pc' := 169) rfl (hb hby at_165) (by decide) (by decide) kq) ?_
    show own_Ends _ _ _ _ _ _ _ T68 (mkF m 169 #[.val (.int p1), .val (.ref b1), .val (.ref r11), .val (.int (0 : Int32)), .val (.int (0 : Int32))] [(.int (1 : Int32))])
    refine own_retN X68 hx (t := .boolean) Bd.returns (by simp) (hb hby at_169) hlk (by decide) (by decide) (w := (1 : Int32)) (by decide) ?_
    show Q_rm_law Z p1 r0 r1 r2 r3 r4 r5 r6 r7 r8 r9 r10 r11 r12 r13 r14 h0 n0 _ T68.heap _
    rw [e68]
    exact ⟨rfl, N68⟩
  · rw [ej]
    show own_Ends _ _ _ _ _ _ _ T31 (mkF m 113 #[.val (.int p1), .val (.ref b1), .unset, .unset, .unset] [(.int (12 : Int32)), (.ref b1)])
    have hin := inb_of (j := (12 : Int32)) Sz ⟨by decide, by decide⟩
    refine own_st (fun _ kq => X31.aaload hx (j := (12 : Int32)) (v := (.ref r12)) (by rw [e31]; exact Ar.1) (State.isArrayOf_alike hZ.alike Ar.2.1) rfl Ar.2.2 hin (Hv.at hin rfl) (g := (mkF m 113 #[.val (.int p1), .val (.ref b1), .unset, .unset, .unset] [(.int (12 : Int32)), (.ref b1)])) rfl rfl (hb hby at_113) _ kq) ?_
    show own_Ends _ _ _ _ _ _ _ T31 (mkF m 114 #[.val (.int p1), .val (.ref b1), .unset, .unset, .unset] [(.ref r12)])
    refine own_st (fun _ kq => XS.astoreN X31.here hx rfl (hb hby at_114) rfl rfl (l' := #[.val (.int p1), .val (.ref b1), .val (.ref r12), .unset, .unset]) rfl kq) ?_
    show own_Ends _ _ _ _ _ _ _ T31 (mkF m 115 #[.val (.int p1), .val (.ref b1), .val (.ref r12), .unset, .unset] [])
    refine own_st (fun _ kq => XS.aloadN X31.here hx rfl (hb hby at_115) rfl rfl kq) ?_
    show own_Ends _ _ _ _ _ _ _ T31 (mkF m 116 #[.val (.int p1), .val (.ref b1), .val (.ref r12), .unset, .unset] [(.ref r12)])
    obtain ⟨T69, X69, e69, st69⟩ := getF X31 hx hZ hown (host := "") (Or.inl (hw _ (List.mem_of_getElem? (i := 35) rfl))) Via.refl e31 (F_12_opcode.ext O31.2) (g := (mkF m 116 #[.val (.int p1), .val (.ref b1), .val (.ref r12), .unset, .unset] [(.ref r12)])) rfl rfl (hb hby at_116)
    refine own_st st69 ?_
    show own_Ends _ _ _ _ _ _ _ T69 (mkF m 119 #[.val (.int p1), .val (.ref b1), .val (.ref r12), .unset, .unset] [(.int (22 : Int32))])
    refine own_st (fun _ kq => XS.bipush X69.here hx rfl (hb hby at_119) kq) ?_
    show own_Ends _ _ _ _ _ _ _ T69 (mkF m 121 #[.val (.int p1), .val (.ref b1), .val (.ref r12), .unset, .unset] [(.int (7 : Int32)), (.int (22 : Int32))])
    refine own_st (fun _ kq => XS.icmpNo X69.here hx rfl (hb hby at_121) rfl (feq (by decide : ¬ ((22 : Int32) = (7 : Int32)))).1 kq) ?_
    show own_Ends _ _ _ _ _ _ _ T69 (mkF m 124 #[.val (.int p1), .val (.ref b1), .val (.ref r12), .unset, .unset] [])
    refine own_st (fun _ kq => XS.aloadN X69.here hx rfl (hb hby at_124) rfl rfl kq) ?_
    show own_Ends _ _ _ _ _ _ _ T69 (mkF m 125 #[.val (.int p1), .val (.ref b1), .val (.ref r12), .unset, .unset] [(.ref r12)])
    obtain ⟨T70, X70, e70, st70⟩ := getF X69 hx hZ hown (host := "") (Or.inl (hw _ (List.mem_of_getElem? (i := 35) rfl))) Via.refl e69 (F_12_opcode.ext O31.2) (g := (mkF m 125 #[.val (.int p1), .val (.ref b1), .val (.ref r12), .unset, .unset] [(.ref r12)])) rfl rfl (hb hby at_125)
    refine own_st st70 ?_
    show own_Ends _ _ _ _ _ _ _ T70 (mkF m 128 #[.val (.int p1), .val (.ref b1), .val (.ref r12), .unset, .unset] [(.int (22 : Int32))])
    refine own_st (fun _ kq => XS.bipush X70.here hx rfl (hb hby at_128) kq) ?_
    show own_Ends _ _ _ _ _ _ _ T70 (mkF m 130 #[.val (.int p1), .val (.ref b1), .val (.ref r12), .unset, .unset] [(.int (8 : Int32)), (.int (22 : Int32))])
    refine own_st (fun _ kq => XS.icmpYes X70.here hx rfl (pc0 := 130) (pc' := 137) rfl (hb hby at_130) rfl (feq (by decide : ¬ ((22 : Int32) = (8 : Int32)))).2 (by decide) (by decide) kq) ?_
    show own_Ends _ _ _ _ _ _ _ T70 (mkF m 137 #[.val (.int p1), .val (.ref b1), .val (.ref r12), .unset, .unset] [])
    refine own_st (fun _ kq => XS.iconst X70.here hx rfl (hb hby at_137) kq) ?_
    show own_Ends _ _ _ _ _ _ _ T70 (mkF m 138 #[.val (.int p1), .val (.ref b1), .val (.ref r12), .unset, .unset] [(.int (0 : Int32))])
    refine own_st (fun _ kq => XS.istoreN X70.here hx rfl (hb hby at_138) rfl (l' := #[.val (.int p1), .val (.ref b1), .val (.ref r12), .val (.int (0 : Int32)), .unset]) rfl kq) ?_
    show own_Ends _ _ _ _ _ _ _ T70 (mkF m 139 #[.val (.int p1), .val (.ref b1), .val (.ref r12), .val (.int (0 : Int32)), .unset] [])
    refine own_st (fun _ kq => XS.aloadN X70.here hx rfl (hb hby at_139) rfl rfl kq) ?_
    show own_Ends _ _ _ _ _ _ _ T70 (mkF m 140 #[.val (.int p1), .val (.ref b1), .val (.ref r12), .val (.int (0 : Int32)), .unset] [(.ref r12)])
    obtain ⟨cq71, kq71, q71a, q71b, q71c⟩ := isOf hZ e70 (E_12.ext O31.2)
    obtain ⟨_, _, ⟨T71, L71, k71, n71⟩, -, X71, ⟨Lc71, hQ71, l71, y71, z71⟩, st71⟩ := X70.virtualBack hx (y := (⟨"com/example/mimsy/mimsy/wabe/Operator", "shortCircuits", "()Z"⟩ : MethodName)) (z := (⟨"com/example/mimsy/mimsy/wabe/Operator", "shortCircuits", "()Z"⟩ : MethodName)) hown (mvT hZ (hw _ (List.mem_of_getElem? (i := 37) rfl))) (mvT hZ (hw _ (List.mem_of_getElem? (i := 38) rfl))) (notFace_of_selects (args := #[]) (mvT hZ (hw _ (List.mem_of_getElem? (i := 40) rfl)))) (mvT hZ (hw _ (List.mem_of_getElem? (i := 40) rfl))) (mvT hZ (hw _ (List.mem_of_getElem? (i := 39) rfl))) (by decide) (backOf (W := 0) (rm_sc l Z a0 hw [] r12 (0 : Int32) r0 r1 r2 r3 r4 r5 r6 r7 r8 r9 r10 r11 r12 r13 r14 h31 n0 O31 (if_neg (fun q => q.elim (F_12_opcode.ne F_5_opcode (by decide)) (F_12_opcode.ne F_6_opcode (by decide)))) G) hZ (hw _ (List.mem_of_getElem? (i := 41) rfl)) (hw _ (List.mem_of_getElem? (i := 3) rfl)) (by decide) (by decide)) q71a q71c (g := (mkF m 140 #[.val (.int p1), .val (.ref b1), .val (.ref r12), .val (.int (0 : Int32)), .unset] [(.ref r12)])) rfl (by rw [hml]; rfl) (Steps.refl _) (argsL := []) (rest := []) (lenOf pd_0 rfl) rfl (by show 2 * 0 + _ ≤ _; exact Nat.le_of_eq rfl) (hb hby at_140) (fun _ _ => ⟨rfl, e70, (by decide : 1 + 0 ≤ _), (by decide : 15 + 0 ≤ _)⟩)
    dsimp only [Pt.U, Pt.locs, Pt.cells, Pt.slots] at X71 l71 y71 z71 st71 hQ71
    subst l71 y71 z71
    obtain ⟨rfl, N71q, e71⟩ := hQ71
    have N71 := Fr.app N31 N71q
    refine own_tr st71 ?_
    show own_Ends _ _ _ _ _ _ _ T71 (mkF m 143 #[.val (.int p1), .val (.ref b1), .val (.ref r12), .val (.int (0 : Int32)), .unset] [(.int (0 : Int32))])
    refine own_st (fun _ kq => XS.istore X71.here hx rfl (hb hby at_143) rfl (l' := #[.val (.int p1), .val (.ref b1), .val (.ref r12), .val (.int (0 : Int32)), .val (.int (0 : Int32))]) rfl kq) ?_
    show own_Ends _ _ _ _ _ _ _ T71 (mkF m 145 #[.val (.int p1), .val (.ref b1), .val (.ref r12), .val (.int (0 : Int32)), .val (.int (0 : Int32))] [])
    refine own_st (fun _ kq => XS.iload X71.here hx rfl (hb hby at_145) rfl kq) ?_
    show own_Ends _ _ _ _ _ _ _ T71 (mkF m 147 #[.val (.int p1), .val (.ref b1), .val (.ref r12), .val (.int (0 : Int32)), .val (.int (0 : Int32))] [(.int (0 : Int32))])
    refine own_st (fun _ kq => XS.iloadN X71.here hx rfl (hb hby at_147) rfl kq) ?_
    show own_Ends _ _ _ _ _ _ _ T71 (mkF m 148 #[.val (.int p1), .val (.ref b1), .val (.ref r12), .val (.int (0 : Int32)), .val (.int (0 : Int32))] [(.int (0 : Int32)), (.int (0 : Int32))])
    refine own_st (fun _ kq => XS.icmpNo X71.here hx rfl (hb hby at_148) rfl (teq (by decide : (0 : Int32) = (0 : Int32))).2 kq) ?_
    show own_Ends _ _ _ _ _ _ _ T71 (mkF m 151 #[.val (.int p1), .val (.ref b1), .val (.ref r12), .val (.int (0 : Int32)), .val (.int (0 : Int32))] [])
    refine own_st (fun _ kq => XS.iload X71.here hx rfl (hb hby at_151) rfl kq) ?_
    show own_Ends _ _ _ _ _ _ _ T71 (mkF m 153 #[.val (.int p1), .val (.ref b1), .val (.ref r12), .val (.int (0 : Int32)), .val (.int (0 : Int32))] [(.int (0 : Int32))])
    refine own_st (fun _ kq => XS.ifYes X71.here hx rfl (pc0 := 153) (pc' := 164) rfl (hb hby at_153) rfl ((if0 _ _).trans (teq (by decide : (0 : Int32) = (0 : Int32))).1) (by decide) (by decide) kq) ?_
    show own_Ends _ _ _ _ _ _ _ T71 (mkF m 164 #[.val (.int p1), .val (.ref b1), .val (.ref r12), .val (.int (0 : Int32)), .val (.int (0 : Int32))] [])
    refine own_st (fun _ kq => XS.iconst X71.here hx rfl (hb hby at_164) kq) ?_
    show own_Ends _ _ _ _ _ _ _ T71 (mkF m 165 #[.val (.int p1), .val (.ref b1), .val (.ref r12), .val (.int (0 : Int32)), .val (.int (0 : Int32))] [(.int (1 : Int32))])
    refine own_st (fun _ kq => XS.goto X71.here hx rfl (pc0 := 165) (pc' := 169) rfl (hb hby at_165) (by decide) (by decide) kq) ?_
    show own_Ends _ _ _ _ _ _ _ T71 (mkF m 169 #[.val (.int p1), .val (.ref b1), .val (.ref r12), .val (.int (0 : Int32)), .val (.int (0 : Int32))] [(.int (1 : Int32))])
    refine own_retN X71 hx (t := .boolean) Bd.returns (by simp) (hb hby at_169) hlk (by decide) (by decide) (w := (1 : Int32)) (by decide) ?_
    show Q_rm_law Z p1 r0 r1 r2 r3 r4 r5 r6 r7 r8 r9 r10 r11 r12 r13 r14 h0 n0 _ T71.heap _
    rw [e71]
    exact ⟨rfl, N71⟩
  · rw [ej]
    show own_Ends _ _ _ _ _ _ _ T31 (mkF m 113 #[.val (.int p1), .val (.ref b1), .unset, .unset, .unset] [(.int (13 : Int32)), (.ref b1)])
    have hin := inb_of (j := (13 : Int32)) Sz ⟨by decide, by decide⟩
    refine own_st (fun _ kq => X31.aaload hx (j := (13 : Int32)) (v := (.ref r13)) (by rw [e31]; exact Ar.1) (State.isArrayOf_alike hZ.alike Ar.2.1) rfl Ar.2.2 hin (Hv.at hin rfl) (g := (mkF m 113 #[.val (.int p1), .val (.ref b1), .unset, .unset, .unset] [(.int (13 : Int32)), (.ref b1)])) rfl rfl (hb hby at_113) _ kq) ?_
    show own_Ends _ _ _ _ _ _ _ T31 (mkF m 114 #[.val (.int p1), .val (.ref b1), .unset, .unset, .unset] [(.ref r13)])
    refine own_st (fun _ kq => XS.astoreN X31.here hx rfl (hb hby at_114) rfl rfl (l' := #[.val (.int p1), .val (.ref b1), .val (.ref r13), .unset, .unset]) rfl kq) ?_
    show own_Ends _ _ _ _ _ _ _ T31 (mkF m 115 #[.val (.int p1), .val (.ref b1), .val (.ref r13), .unset, .unset] [])
    refine own_st (fun _ kq => XS.aloadN X31.here hx rfl (hb hby at_115) rfl rfl kq) ?_
    show own_Ends _ _ _ _ _ _ _ T31 (mkF m 116 #[.val (.int p1), .val (.ref b1), .val (.ref r13), .unset, .unset] [(.ref r13)])
    obtain ⟨T72, X72, e72, st72⟩ := getF X31 hx hZ hown (host := "") (Or.inl (hw _ (List.mem_of_getElem? (i := 35) rfl))) Via.refl e31 (F_13_opcode.ext O31.2) (g := (mkF m 116 #[.val (.int p1), .val (.ref b1), .val (.ref r13), .unset, .unset] [(.ref r13)])) rfl rfl (hb hby at_116)
    refine own_st st72 ?_
    show own_Ends _ _ _ _ _ _ _ T72 (mkF m 119 #[.val (.int p1), .val (.ref b1), .val (.ref r13), .unset, .unset] [(.int (10 : Int32))])
    refine own_st (fun _ kq => XS.bipush X72.here hx rfl (hb hby at_119) kq) ?_
    show own_Ends _ _ _ _ _ _ _ T72 (mkF m 121 #[.val (.int p1), .val (.ref b1), .val (.ref r13), .unset, .unset] [(.int (7 : Int32)), (.int (10 : Int32))])
    refine own_st (fun _ kq => XS.icmpNo X72.here hx rfl (hb hby at_121) rfl (feq (by decide : ¬ ((10 : Int32) = (7 : Int32)))).1 kq) ?_
    show own_Ends _ _ _ _ _ _ _ T72 (mkF m 124 #[.val (.int p1), .val (.ref b1), .val (.ref r13), .unset, .unset] [])
    refine own_st (fun _ kq => XS.aloadN X72.here hx rfl (hb hby at_124) rfl rfl kq) ?_
    show own_Ends _ _ _ _ _ _ _ T72 (mkF m 125 #[.val (.int p1), .val (.ref b1), .val (.ref r13), .unset, .unset] [(.ref r13)])
    obtain ⟨T73, X73, e73, st73⟩ := getF X72 hx hZ hown (host := "") (Or.inl (hw _ (List.mem_of_getElem? (i := 35) rfl))) Via.refl e72 (F_13_opcode.ext O31.2) (g := (mkF m 125 #[.val (.int p1), .val (.ref b1), .val (.ref r13), .unset, .unset] [(.ref r13)])) rfl rfl (hb hby at_125)
    refine own_st st73 ?_
    show own_Ends _ _ _ _ _ _ _ T73 (mkF m 128 #[.val (.int p1), .val (.ref b1), .val (.ref r13), .unset, .unset] [(.int (10 : Int32))])
    refine own_st (fun _ kq => XS.bipush X73.here hx rfl (hb hby at_128) kq) ?_
    show own_Ends _ _ _ _ _ _ _ T73 (mkF m 130 #[.val (.int p1), .val (.ref b1), .val (.ref r13), .unset, .unset] [(.int (8 : Int32)), (.int (10 : Int32))])
    refine own_st (fun _ kq => XS.icmpYes X73.here hx rfl (pc0 := 130) (pc' := 137) rfl (hb hby at_130) rfl (feq (by decide : ¬ ((10 : Int32) = (8 : Int32)))).2 (by decide) (by decide) kq) ?_
    show own_Ends _ _ _ _ _ _ _ T73 (mkF m 137 #[.val (.int p1), .val (.ref b1), .val (.ref r13), .unset, .unset] [])
    refine own_st (fun _ kq => XS.iconst X73.here hx rfl (hb hby at_137) kq) ?_
    show own_Ends _ _ _ _ _ _ _ T73 (mkF m 138 #[.val (.int p1), .val (.ref b1), .val (.ref r13), .unset, .unset] [(.int (0 : Int32))])
    refine own_st (fun _ kq => XS.istoreN X73.here hx rfl (hb hby at_138) rfl (l' := #[.val (.int p1), .val (.ref b1), .val (.ref r13), .val (.int (0 : Int32)), .unset]) rfl kq) ?_
    show own_Ends _ _ _ _ _ _ _ T73 (mkF m 139 #[.val (.int p1), .val (.ref b1), .val (.ref r13), .val (.int (0 : Int32)), .unset] [])
    refine own_st (fun _ kq => XS.aloadN X73.here hx rfl (hb hby at_139) rfl rfl kq) ?_
    show own_Ends _ _ _ _ _ _ _ T73 (mkF m 140 #[.val (.int p1), .val (.ref b1), .val (.ref r13), .val (.int (0 : Int32)), .unset] [(.ref r13)])
    obtain ⟨cq74, kq74, q74a, q74b, q74c⟩ := isOf hZ e73 (E_13.ext O31.2)
    obtain ⟨_, _, ⟨T74, L74, k74, n74⟩, -, X74, ⟨Lc74, hQ74, l74, y74, z74⟩, st74⟩ := X73.virtualBack hx (y := (⟨"com/example/mimsy/mimsy/wabe/Operator", "shortCircuits", "()Z"⟩ : MethodName)) (z := (⟨"com/example/mimsy/mimsy/wabe/Operator", "shortCircuits", "()Z"⟩ : MethodName)) hown (mvT hZ (hw _ (List.mem_of_getElem? (i := 37) rfl))) (mvT hZ (hw _ (List.mem_of_getElem? (i := 38) rfl))) (notFace_of_selects (args := #[]) (mvT hZ (hw _ (List.mem_of_getElem? (i := 40) rfl)))) (mvT hZ (hw _ (List.mem_of_getElem? (i := 40) rfl))) (mvT hZ (hw _ (List.mem_of_getElem? (i := 39) rfl))) (by decide) (backOf (W := 0) (rm_sc l Z a0 hw [] r13 (0 : Int32) r0 r1 r2 r3 r4 r5 r6 r7 r8 r9 r10 r11 r12 r13 r14 h31 n0 O31 (if_neg (fun q => q.elim (F_13_opcode.ne F_5_opcode (by decide)) (F_13_opcode.ne F_6_opcode (by decide)))) G) hZ (hw _ (List.mem_of_getElem? (i := 41) rfl)) (hw _ (List.mem_of_getElem? (i := 3) rfl)) (by decide) (by decide)) q74a q74c (g := (mkF m 140 #[.val (.int p1), .val (.ref b1), .val (.ref r13), .val (.int (0 : Int32)), .unset] [(.ref r13)])) rfl (by rw [hml]; rfl) (Steps.refl _) (argsL := []) (rest := []) (lenOf pd_0 rfl) rfl (by show 2 * 0 + _ ≤ _; exact Nat.le_of_eq rfl) (hb hby at_140) (fun _ _ => ⟨rfl, e73, (by decide : 1 + 0 ≤ _), (by decide : 15 + 0 ≤ _)⟩)
    dsimp only [Pt.U, Pt.locs, Pt.cells, Pt.slots] at X74 l74 y74 z74 st74 hQ74
    subst l74 y74 z74
    obtain ⟨rfl, N74q, e74⟩ := hQ74
    have N74 := Fr.app N31 N74q
    refine own_tr st74 ?_
    show own_Ends _ _ _ _ _ _ _ T74 (mkF m 143 #[.val (.int p1), .val (.ref b1), .val (.ref r13), .val (.int (0 : Int32)), .unset] [(.int (0 : Int32))])
    refine own_st (fun _ kq => XS.istore X74.here hx rfl (hb hby at_143) rfl (l' := #[.val (.int p1), .val (.ref b1), .val (.ref r13), .val (.int (0 : Int32)), .val (.int (0 : Int32))]) rfl kq) ?_
    show own_Ends _ _ _ _ _ _ _ T74 (mkF m 145 #[.val (.int p1), .val (.ref b1), .val (.ref r13), .val (.int (0 : Int32)), .val (.int (0 : Int32))] [])
    refine own_st (fun _ kq => XS.iload X74.here hx rfl (hb hby at_145) rfl kq) ?_
    show own_Ends _ _ _ _ _ _ _ T74 (mkF m 147 #[.val (.int p1), .val (.ref b1), .val (.ref r13), .val (.int (0 : Int32)), .val (.int (0 : Int32))] [(.int (0 : Int32))])
    refine own_st (fun _ kq => XS.iloadN X74.here hx rfl (hb hby at_147) rfl kq) ?_
    show own_Ends _ _ _ _ _ _ _ T74 (mkF m 148 #[.val (.int p1), .val (.ref b1), .val (.ref r13), .val (.int (0 : Int32)), .val (.int (0 : Int32))] [(.int (0 : Int32)), (.int (0 : Int32))])
    refine own_st (fun _ kq => XS.icmpNo X74.here hx rfl (hb hby at_148) rfl (teq (by decide : (0 : Int32) = (0 : Int32))).2 kq) ?_
    show own_Ends _ _ _ _ _ _ _ T74 (mkF m 151 #[.val (.int p1), .val (.ref b1), .val (.ref r13), .val (.int (0 : Int32)), .val (.int (0 : Int32))] [])
    refine own_st (fun _ kq => XS.iload X74.here hx rfl (hb hby at_151) rfl kq) ?_
    show own_Ends _ _ _ _ _ _ _ T74 (mkF m 153 #[.val (.int p1), .val (.ref b1), .val (.ref r13), .val (.int (0 : Int32)), .val (.int (0 : Int32))] [(.int (0 : Int32))])
    refine own_st (fun _ kq => XS.ifYes X74.here hx rfl (pc0 := 153) (pc' := 164) rfl (hb hby at_153) rfl ((if0 _ _).trans (teq (by decide : (0 : Int32) = (0 : Int32))).1) (by decide) (by decide) kq) ?_
    show own_Ends _ _ _ _ _ _ _ T74 (mkF m 164 #[.val (.int p1), .val (.ref b1), .val (.ref r13), .val (.int (0 : Int32)), .val (.int (0 : Int32))] [])
    refine own_st (fun _ kq => XS.iconst X74.here hx rfl (hb hby at_164) kq) ?_
    show own_Ends _ _ _ _ _ _ _ T74 (mkF m 165 #[.val (.int p1), .val (.ref b1), .val (.ref r13), .val (.int (0 : Int32)), .val (.int (0 : Int32))] [(.int (1 : Int32))])
    refine own_st (fun _ kq => XS.goto X74.here hx rfl (pc0 := 165) (pc' := 169) rfl (hb hby at_165) (by decide) (by decide) kq) ?_
    show own_Ends _ _ _ _ _ _ _ T74 (mkF m 169 #[.val (.int p1), .val (.ref b1), .val (.ref r13), .val (.int (0 : Int32)), .val (.int (0 : Int32))] [(.int (1 : Int32))])
    refine own_retN X74 hx (t := .boolean) Bd.returns (by simp) (hb hby at_169) hlk (by decide) (by decide) (w := (1 : Int32)) (by decide) ?_
    show Q_rm_law Z p1 r0 r1 r2 r3 r4 r5 r6 r7 r8 r9 r10 r11 r12 r13 r14 h0 n0 _ T74.heap _
    rw [e74]
    exact ⟨rfl, N74⟩
  · rw [ej]
    show own_Ends _ _ _ _ _ _ _ T31 (mkF m 113 #[.val (.int p1), .val (.ref b1), .unset, .unset, .unset] [(.int (14 : Int32)), (.ref b1)])
    have hin := inb_of (j := (14 : Int32)) Sz ⟨by decide, by decide⟩
    refine own_st (fun _ kq => X31.aaload hx (j := (14 : Int32)) (v := (.ref r14)) (by rw [e31]; exact Ar.1) (State.isArrayOf_alike hZ.alike Ar.2.1) rfl Ar.2.2 hin (Hv.at hin rfl) (g := (mkF m 113 #[.val (.int p1), .val (.ref b1), .unset, .unset, .unset] [(.int (14 : Int32)), (.ref b1)])) rfl rfl (hb hby at_113) _ kq) ?_
    show own_Ends _ _ _ _ _ _ _ T31 (mkF m 114 #[.val (.int p1), .val (.ref b1), .unset, .unset, .unset] [(.ref r14)])
    refine own_st (fun _ kq => XS.astoreN X31.here hx rfl (hb hby at_114) rfl rfl (l' := #[.val (.int p1), .val (.ref b1), .val (.ref r14), .unset, .unset]) rfl kq) ?_
    show own_Ends _ _ _ _ _ _ _ T31 (mkF m 115 #[.val (.int p1), .val (.ref b1), .val (.ref r14), .unset, .unset] [])
    refine own_st (fun _ kq => XS.aloadN X31.here hx rfl (hb hby at_115) rfl rfl kq) ?_
    show own_Ends _ _ _ _ _ _ _ T31 (mkF m 116 #[.val (.int p1), .val (.ref b1), .val (.ref r14), .unset, .unset] [(.ref r14)])
    obtain ⟨T75, X75, e75, st75⟩ := getF X31 hx hZ hown (host := "") (Or.inl (hw _ (List.mem_of_getElem? (i := 35) rfl))) Via.refl e31 (F_14_opcode.ext O31.2) (g := (mkF m 116 #[.val (.int p1), .val (.ref b1), .val (.ref r14), .unset, .unset] [(.ref r14)])) rfl rfl (hb hby at_116)
    refine own_st st75 ?_
    show own_Ends _ _ _ _ _ _ _ T75 (mkF m 119 #[.val (.int p1), .val (.ref b1), .val (.ref r14), .unset, .unset] [(.int (11 : Int32))])
    refine own_st (fun _ kq => XS.bipush X75.here hx rfl (hb hby at_119) kq) ?_
    show own_Ends _ _ _ _ _ _ _ T75 (mkF m 121 #[.val (.int p1), .val (.ref b1), .val (.ref r14), .unset, .unset] [(.int (7 : Int32)), (.int (11 : Int32))])
    refine own_st (fun _ kq => XS.icmpNo X75.here hx rfl (hb hby at_121) rfl (feq (by decide : ¬ ((11 : Int32) = (7 : Int32)))).1 kq) ?_
    show own_Ends _ _ _ _ _ _ _ T75 (mkF m 124 #[.val (.int p1), .val (.ref b1), .val (.ref r14), .unset, .unset] [])
    refine own_st (fun _ kq => XS.aloadN X75.here hx rfl (hb hby at_124) rfl rfl kq) ?_
    show own_Ends _ _ _ _ _ _ _ T75 (mkF m 125 #[.val (.int p1), .val (.ref b1), .val (.ref r14), .unset, .unset] [(.ref r14)])
    obtain ⟨T76, X76, e76, st76⟩ := getF X75 hx hZ hown (host := "") (Or.inl (hw _ (List.mem_of_getElem? (i := 35) rfl))) Via.refl e75 (F_14_opcode.ext O31.2) (g := (mkF m 125 #[.val (.int p1), .val (.ref b1), .val (.ref r14), .unset, .unset] [(.ref r14)])) rfl rfl (hb hby at_125)
    refine own_st st76 ?_
    show own_Ends _ _ _ _ _ _ _ T76 (mkF m 128 #[.val (.int p1), .val (.ref b1), .val (.ref r14), .unset, .unset] [(.int (11 : Int32))])
    refine own_st (fun _ kq => XS.bipush X76.here hx rfl (hb hby at_128) kq) ?_
    show own_Ends _ _ _ _ _ _ _ T76 (mkF m 130 #[.val (.int p1), .val (.ref b1), .val (.ref r14), .unset, .unset] [(.int (8 : Int32)), (.int (11 : Int32))])
    refine own_st (fun _ kq => XS.icmpYes X76.here hx rfl (pc0 := 130) (pc' := 137) rfl (hb hby at_130) rfl (feq (by decide : ¬ ((11 : Int32) = (8 : Int32)))).2 (by decide) (by decide) kq) ?_
    show own_Ends _ _ _ _ _ _ _ T76 (mkF m 137 #[.val (.int p1), .val (.ref b1), .val (.ref r14), .unset, .unset] [])
    refine own_st (fun _ kq => XS.iconst X76.here hx rfl (hb hby at_137) kq) ?_
    show own_Ends _ _ _ _ _ _ _ T76 (mkF m 138 #[.val (.int p1), .val (.ref b1), .val (.ref r14), .unset, .unset] [(.int (0 : Int32))])
    refine own_st (fun _ kq => XS.istoreN X76.here hx rfl (hb hby at_138) rfl (l' := #[.val (.int p1), .val (.ref b1), .val (.ref r14), .val (.int (0 : Int32)), .unset]) rfl kq) ?_
    show own_Ends _ _ _ _ _ _ _ T76 (mkF m 139 #[.val (.int p1), .val (.ref b1), .val (.ref r14), .val (.int (0 : Int32)), .unset] [])
    refine own_st (fun _ kq => XS.aloadN X76.here hx rfl (hb hby at_139) rfl rfl kq) ?_
    show own_Ends _ _ _ _ _ _ _ T76 (mkF m 140 #[.val (.int p1), .val (.ref b1), .val (.ref r14), .val (.int (0 : Int32)), .unset] [(.ref r14)])
    obtain ⟨cq77, kq77, q77a, q77b, q77c⟩ := isOf hZ e76 (E_14.ext O31.2)
    obtain ⟨_, _, ⟨T77, L77, k77, n77⟩, -, X77, ⟨Lc77, hQ77, l77, y77, z77⟩, st77⟩ := X76.virtualBack hx (y := (⟨"com/example/mimsy/mimsy/wabe/Operator", "shortCircuits", "()Z"⟩ : MethodName)) (z := (⟨"com/example/mimsy/mimsy/wabe/Operator", "shortCircuits", "()Z"⟩ : MethodName)) hown (mvT hZ (hw _ (List.mem_of_getElem? (i := 37) rfl))) (mvT hZ (hw _ (List.mem_of_getElem? (i := 38) rfl))) (notFace_of_selects (args := #[]) (mvT hZ (hw _ (List.mem_of_getElem? (i := 40) rfl)))) (mvT hZ (hw _ (List.mem_of_getElem? (i := 40) rfl))) (mvT hZ (hw _ (List.mem_of_getElem? (i := 39) rfl))) (by decide) (backOf (W := 0) (rm_sc l Z a0 hw [] r14 (0 : Int32) r0 r1 r2 r3 r4 r5 r6 r7 r8 r9 r10 r11 r12 r13 r14 h31 n0 O31 (if_neg (fun q => q.elim (F_14_opcode.ne F_5_opcode (by decide)) (F_14_opcode.ne F_6_opcode (by decide)))) G) hZ (hw _ (List.mem_of_getElem? (i := 41) rfl)) (hw _ (List.mem_of_getElem? (i := 3) rfl)) (by decide) (by decide)) q77a q77c (g := (mkF m 140 #[.val (.int p1), .val (.ref b1), .val (.ref r14), .val (.int (0 : Int32)), .unset] [(.ref r14)])) rfl (by rw [hml]; rfl) (Steps.refl _) (argsL := []) (rest := []) (lenOf pd_0 rfl) rfl (by show 2 * 0 + _ ≤ _; exact Nat.le_of_eq rfl) (hb hby at_140) (fun _ _ => ⟨rfl, e76, (by decide : 1 + 0 ≤ _), (by decide : 15 + 0 ≤ _)⟩)
    dsimp only [Pt.U, Pt.locs, Pt.cells, Pt.slots] at X77 l77 y77 z77 st77 hQ77
    subst l77 y77 z77
    obtain ⟨rfl, N77q, e77⟩ := hQ77
    have N77 := Fr.app N31 N77q
    refine own_tr st77 ?_
    show own_Ends _ _ _ _ _ _ _ T77 (mkF m 143 #[.val (.int p1), .val (.ref b1), .val (.ref r14), .val (.int (0 : Int32)), .unset] [(.int (0 : Int32))])
    refine own_st (fun _ kq => XS.istore X77.here hx rfl (hb hby at_143) rfl (l' := #[.val (.int p1), .val (.ref b1), .val (.ref r14), .val (.int (0 : Int32)), .val (.int (0 : Int32))]) rfl kq) ?_
    show own_Ends _ _ _ _ _ _ _ T77 (mkF m 145 #[.val (.int p1), .val (.ref b1), .val (.ref r14), .val (.int (0 : Int32)), .val (.int (0 : Int32))] [])
    refine own_st (fun _ kq => XS.iload X77.here hx rfl (hb hby at_145) rfl kq) ?_
    show own_Ends _ _ _ _ _ _ _ T77 (mkF m 147 #[.val (.int p1), .val (.ref b1), .val (.ref r14), .val (.int (0 : Int32)), .val (.int (0 : Int32))] [(.int (0 : Int32))])
    refine own_st (fun _ kq => XS.iloadN X77.here hx rfl (hb hby at_147) rfl kq) ?_
    show own_Ends _ _ _ _ _ _ _ T77 (mkF m 148 #[.val (.int p1), .val (.ref b1), .val (.ref r14), .val (.int (0 : Int32)), .val (.int (0 : Int32))] [(.int (0 : Int32)), (.int (0 : Int32))])
    refine own_st (fun _ kq => XS.icmpNo X77.here hx rfl (hb hby at_148) rfl (teq (by decide : (0 : Int32) = (0 : Int32))).2 kq) ?_
    show own_Ends _ _ _ _ _ _ _ T77 (mkF m 151 #[.val (.int p1), .val (.ref b1), .val (.ref r14), .val (.int (0 : Int32)), .val (.int (0 : Int32))] [])
    refine own_st (fun _ kq => XS.iload X77.here hx rfl (hb hby at_151) rfl kq) ?_
    show own_Ends _ _ _ _ _ _ _ T77 (mkF m 153 #[.val (.int p1), .val (.ref b1), .val (.ref r14), .val (.int (0 : Int32)), .val (.int (0 : Int32))] [(.int (0 : Int32))])
    refine own_st (fun _ kq => XS.ifYes X77.here hx rfl (pc0 := 153) (pc' := 164) rfl (hb hby at_153) rfl ((if0 _ _).trans (teq (by decide : (0 : Int32) = (0 : Int32))).1) (by decide) (by decide) kq) ?_
    show own_Ends _ _ _ _ _ _ _ T77 (mkF m 164 #[.val (.int p1), .val (.ref b1), .val (.ref r14), .val (.int (0 : Int32)), .val (.int (0 : Int32))] [])
    refine own_st (fun _ kq => XS.iconst X77.here hx rfl (hb hby at_164) kq) ?_
    show own_Ends _ _ _ _ _ _ _ T77 (mkF m 165 #[.val (.int p1), .val (.ref b1), .val (.ref r14), .val (.int (0 : Int32)), .val (.int (0 : Int32))] [(.int (1 : Int32))])
    refine own_st (fun _ kq => XS.goto X77.here hx rfl (pc0 := 165) (pc' := 169) rfl (hb hby at_165) (by decide) (by decide) kq) ?_
    show own_Ends _ _ _ _ _ _ _ T77 (mkF m 169 #[.val (.int p1), .val (.ref b1), .val (.ref r14), .val (.int (0 : Int32)), .val (.int (0 : Int32))] [(.int (1 : Int32))])
    refine own_retN X77 hx (t := .boolean) Bd.returns (by simp) (hb hby at_169) hlk (by decide) (by decide) (w := (1 : Int32)) (by decide) ?_
    show Q_rm_law Z p1 r0 r1 r2 r3 r4 r5 r6 r7 r8 r9 r10 r11 r12 r13 r14 h0 n0 _ T77.heap _
    rw [e77]
    exact ⟨rfl, N77⟩
set_option maxRecDepth 65536 in
set_option maxHeartbeats 40000000 in
theorem comes_1 {Post : Tables → Env → Array Value → State → Outcome → State → Prop} (hpost : ∀ tb e args s v u, (limb_1_1.after args s (.returned v) u = true ∧ limb_1_2.after args s (.returned v) u = true ∧ True) → FrameEnd s (.returned v) u (Jvm.fieldLocs frame_1_writes args s ++ Jvm.arrayLocs frame_1_arrays args s ++ Jvm.staticLocs frame_1_statics s) 16 128 → Post tb e args s (.returned v) u) :
    ArmFor flags0 classFile x code maxLocals ret World_1 tables_1 room_1 Calls_1 rest_1 Pre_1 Post := by
  intro l hfl _ _ p e ha hc hk s m args below hf hA hF happ hP
  obtain ⟨hcalls, hrest, hpre⟩ := hP
  obtain ⟨-, -, -, hnamed, -, -, -, hat⟩ := (Spec.applies_iff hf).mp happ
  obtain ⟨hg, hn⟩ := and_e (Cond.before_iff.mp (show (Jvm.Cond.and given_1 narrow_1).before args s = true from hpre))
  obtain ⟨g0, hg⟩ := and_e hg
  have g1 := hg
  obtain ⟨w0, rfl⟩ : ∃ w0 : Value, args = #[w0] := by
    have hs : args.size = 1 := by simpa [Cond.value, given_1] using g0
    obtain ⟨L⟩ := args
    match L, hs with
    | [w0], _ => exact ⟨w0, rfl⟩
  have hw := fun d (hd : d ∈ tables_1) => atoms_spec (ws := Jvm.Cond.code x code maxLocals ret :: tables_1) hat d (List.mem_cons_of_mem _ hd)
  obtain ⟨i0, ei0⟩ := is_v g1
  obtain rfl : w0 = (.int i0) := Option.some.inj ei0
  obtain ⟨c0, hn⟩ := and_e hn
  obtain ⟨c1, hn⟩ := and_e hn
  obtain ⟨c2, hn⟩ := and_e hn
  obtain ⟨c3, hn⟩ := and_e hn
  obtain ⟨c4, hn⟩ := and_e hn
  obtain ⟨c5, hn⟩ := and_e hn
  obtain ⟨c6, hn⟩ := and_e hn
  obtain ⟨c7, hn⟩ := and_e hn
  obtain ⟨c8, hn⟩ := and_e hn
  obtain ⟨c9, hn⟩ := and_e hn
  obtain ⟨c10, hn⟩ := and_e hn
  obtain ⟨c11, hn⟩ := and_e hn
  obtain ⟨c12, hn⟩ := and_e hn
  obtain ⟨c13, hn⟩ := and_e hn
  obtain ⟨c14, hn⟩ := and_e hn
  obtain ⟨c15, hn⟩ := and_e hn
  obtain ⟨c16, hn⟩ := and_e hn
  obtain ⟨c17, hn⟩ := and_e hn
  obtain ⟨c18, hn⟩ := and_e hn
  obtain ⟨c19, hn⟩ := and_e hn
  obtain ⟨c20, hn⟩ := and_e hn
  obtain ⟨c21, hn⟩ := and_e hn
  obtain ⟨c22, hn⟩ := and_e hn
  obtain ⟨c23, hn⟩ := and_e hn
  obtain ⟨c24, hn⟩ := and_e hn
  obtain ⟨c25, hn⟩ := and_e hn
  obtain ⟨c26, hn⟩ := and_e hn
  obtain ⟨c27, hn⟩ := and_e hn
  obtain ⟨c28, hn⟩ := and_e hn
  obtain ⟨c29, hn⟩ := and_e hn
  obtain ⟨c30, hn⟩ := and_e hn
  obtain ⟨c31, hn⟩ := and_e hn
  obtain ⟨c32, hn⟩ := and_e hn
  obtain ⟨c33, hn⟩ := and_e hn
  obtain ⟨c34, hn⟩ := and_e hn
  obtain ⟨c35, hn⟩ := and_e hn
  obtain ⟨c36, hn⟩ := and_e hn
  obtain ⟨c37, hn⟩ := and_e hn
  obtain ⟨c38, hn⟩ := and_e hn
  obtain ⟨c39, hn⟩ := and_e hn
  obtain ⟨c40, hn⟩ := and_e hn
  obtain ⟨c41, hn⟩ := and_e hn
  obtain ⟨c42, hn⟩ := and_e hn
  obtain ⟨c43, hn⟩ := and_e hn
  obtain ⟨c44, hn⟩ := and_e hn
  obtain ⟨c45, hn⟩ := and_e hn
  obtain ⟨c46, hn⟩ := and_e hn
  obtain ⟨c47, hn⟩ := and_e hn
  obtain ⟨c48, hn⟩ := and_e hn
  obtain ⟨c49, hn⟩ := and_e hn
  obtain ⟨c50, hn⟩ := and_e hn
  obtain ⟨c51, hn⟩ := and_e hn
  obtain ⟨c52, hn⟩ := and_e hn
  obtain ⟨c53, hn⟩ := and_e hn
  obtain ⟨c54, hn⟩ := and_e hn
  obtain ⟨c55, hn⟩ := and_e hn
  obtain ⟨c56, hn⟩ := and_e hn
  obtain ⟨c57, hn⟩ := and_e hn
  obtain ⟨c58, hn⟩ := and_e hn
  have c59 := hn
  obtain ⟨r0, v_0⟩ := exa_v c0
  have E_0 := Exa.start v_0 c0
  have S_0 := Sta.start v_0 (Or.inr ⟨(hw _ (List.mem_of_getElem? (i := 3) rfl)), (hw _ (List.mem_of_getElem? (i := 4) rfl))⟩)
  obtain ⟨r1, v_1⟩ := exa_v c1
  have E_1 := Exa.start v_1 c1
  have S_1 := Sta.start v_1 (Or.inr ⟨(hw _ (List.mem_of_getElem? (i := 3) rfl)), (hw _ (List.mem_of_getElem? (i := 7) rfl))⟩)
  obtain ⟨r2, v_2⟩ := exa_v c2
  have E_2 := Exa.start v_2 c2
  have S_2 := Sta.start v_2 (Or.inr ⟨(hw _ (List.mem_of_getElem? (i := 3) rfl)), (hw _ (List.mem_of_getElem? (i := 9) rfl))⟩)
  obtain ⟨r3, v_3⟩ := exa_v c3
  have E_3 := Exa.start v_3 c3
  have S_3 := Sta.start v_3 (Or.inr ⟨(hw _ (List.mem_of_getElem? (i := 3) rfl)), (hw _ (List.mem_of_getElem? (i := 11) rfl))⟩)
  obtain ⟨r4, v_4⟩ := exa_v c4
  have E_4 := Exa.start v_4 c4
  have S_4 := Sta.start v_4 (Or.inr ⟨(hw _ (List.mem_of_getElem? (i := 3) rfl)), (hw _ (List.mem_of_getElem? (i := 13) rfl))⟩)
  obtain ⟨r5, v_5⟩ := exa_v c5
  have E_5 := Exa.start v_5 c5
  have S_5 := Sta.start v_5 (Or.inr ⟨(hw _ (List.mem_of_getElem? (i := 3) rfl)), (hw _ (List.mem_of_getElem? (i := 15) rfl))⟩)
  obtain ⟨r6, v_6⟩ := exa_v c6
  have E_6 := Exa.start v_6 c6
  have S_6 := Sta.start v_6 (Or.inr ⟨(hw _ (List.mem_of_getElem? (i := 3) rfl)), (hw _ (List.mem_of_getElem? (i := 17) rfl))⟩)
  obtain ⟨r7, v_7⟩ := exa_v c7
  have E_7 := Exa.start v_7 c7
  have S_7 := Sta.start v_7 (Or.inr ⟨(hw _ (List.mem_of_getElem? (i := 3) rfl)), (hw _ (List.mem_of_getElem? (i := 19) rfl))⟩)
  obtain ⟨r8, v_8⟩ := exa_v c8
  have E_8 := Exa.start v_8 c8
  have S_8 := Sta.start v_8 (Or.inr ⟨(hw _ (List.mem_of_getElem? (i := 3) rfl)), (hw _ (List.mem_of_getElem? (i := 21) rfl))⟩)
  obtain ⟨r9, v_9⟩ := exa_v c9
  have E_9 := Exa.start v_9 c9
  have S_9 := Sta.start v_9 (Or.inr ⟨(hw _ (List.mem_of_getElem? (i := 3) rfl)), (hw _ (List.mem_of_getElem? (i := 23) rfl))⟩)
  obtain ⟨r10, v_10⟩ := exa_v c10
  have E_10 := Exa.start v_10 c10
  have S_10 := Sta.start v_10 (Or.inr ⟨(hw _ (List.mem_of_getElem? (i := 3) rfl)), (hw _ (List.mem_of_getElem? (i := 25) rfl))⟩)
  obtain ⟨r11, v_11⟩ := exa_v c11
  have E_11 := Exa.start v_11 c11
  have S_11 := Sta.start v_11 (Or.inr ⟨(hw _ (List.mem_of_getElem? (i := 3) rfl)), (hw _ (List.mem_of_getElem? (i := 27) rfl))⟩)
  obtain ⟨r12, v_12⟩ := exa_v c12
  have E_12 := Exa.start v_12 c12
  have S_12 := Sta.start v_12 (Or.inr ⟨(hw _ (List.mem_of_getElem? (i := 3) rfl)), (hw _ (List.mem_of_getElem? (i := 29) rfl))⟩)
  obtain ⟨r13, v_13⟩ := exa_v c13
  have E_13 := Exa.start v_13 c13
  have S_13 := Sta.start v_13 (Or.inr ⟨(hw _ (List.mem_of_getElem? (i := 3) rfl)), (hw _ (List.mem_of_getElem? (i := 31) rfl))⟩)
  obtain ⟨r14, v_14⟩ := exa_v c14
  have E_14 := Exa.start v_14 c14
  have S_14 := Sta.start v_14 (Or.inr ⟨(hw _ (List.mem_of_getElem? (i := 3) rfl)), (hw _ (List.mem_of_getElem? (i := 33) rfl))⟩)
  have F_0_opcode := own_fldI v_0 c15
  have F_0_ordinal := own_fldI v_0 c16
  have F_5_ordinal := own_fldI v_5 c17
  have F_6_ordinal := own_fldI v_6 c18
  have F_3_opcode := own_fldI v_3 c19
  have F_3_ordinal := own_fldI v_3 c20
  have F_5_opcode := own_fldI v_5 c21
  have F_5_operands := own_fldI v_5 c22
  have F_13_opcode := own_fldI v_13 c23
  have F_13_ordinal := own_fldI v_13 c24
  have F_6_opcode := own_fldI v_6 c25
  have F_6_operands := own_fldI v_6 c26
  have F_14_opcode := own_fldI v_14 c27
  have F_14_ordinal := own_fldI v_14 c28
  have F_7_opcode := own_fldI v_7 c29
  have F_7_ordinal := own_fldI v_7 c30
  have F_2_opcode := own_fldI v_2 c31
  have F_2_ordinal := own_fldI v_2 c32
  have F_11_opcode := own_fldI v_11 c33
  have F_11_ordinal := own_fldI v_11 c34
  have F_10_opcode := own_fldI v_10 c35
  have F_10_ordinal := own_fldI v_10 c36
  have F_8_opcode := own_fldI v_8 c37
  have F_8_ordinal := own_fldI v_8 c38
  have F_1_opcode := own_fldI v_1 c39
  have F_1_ordinal := own_fldI v_1 c40
  have F_12_opcode := own_fldI v_12 c41
  have F_12_ordinal := own_fldI v_12 c42
  have F_4_opcode := own_fldI v_4 c43
  have F_4_ordinal := own_fldI v_4 c44
  have F_9_opcode := own_fldI v_9 c45
  have F_9_ordinal := own_fldI v_9 c46
  have F_0_operands := own_fldI v_0 c47
  have F_1_operands := own_fldI v_1 c48
  have F_2_operands := own_fldI v_2 c49
  have F_3_operands := own_fldI v_3 c50
  have F_4_operands := own_fldI v_4 c51
  have F_7_operands := own_fldI v_7 c52
  have F_8_operands := own_fldI v_8 c53
  have F_9_operands := own_fldI v_9 c54
  have F_10_operands := own_fldI v_10 c55
  have F_11_operands := own_fldI v_11 c56
  have F_12_operands := own_fldI v_12 c57
  have F_13_operands := own_fldI v_13 c58
  have F_14_operands := own_fldI v_14 c59
  have G : own_W s r0 r1 r2 r3 r4 r5 r6 r7 r8 r9 r10 r11 r12 r13 r14 := ⟨S_0, E_0, S_1, E_1, S_2, E_2, S_3, E_3, S_4, E_4, S_5, E_5, S_6, E_6, S_7, E_7, S_8, E_8, S_9, E_9, S_10, E_10, S_11, E_11, S_12, E_12, S_13, E_13, S_14, E_14, F_0_opcode, F_0_ordinal, F_5_ordinal, F_6_ordinal, F_3_opcode, F_3_ordinal, F_5_opcode, F_5_operands, F_13_opcode, F_13_ordinal, F_6_opcode, F_6_operands, F_14_opcode, F_14_ordinal, F_7_opcode, F_7_ordinal, F_2_opcode, F_2_ordinal, F_11_opcode, F_11_ordinal, F_10_opcode, F_10_ordinal, F_8_opcode, F_8_ordinal, F_1_opcode, F_1_ordinal, F_12_opcode, F_12_ordinal, F_4_opcode, F_4_ordinal, F_9_opcode, F_9_ordinal, F_0_operands, F_1_operands, F_2_operands, F_3_operands, F_4_operands, F_7_operands, F_8_operands, F_9_operands, F_10_operands, F_11_operands, F_12_operands, F_13_operands, F_14_operands⟩
  obtain ⟨n, o, h1, h2, h3, _, L, rfl, ⟨rfl, N⟩, hq⟩ := rm_law l s _ hw tables_1 i0 r0 r1 r2 r3 r4 r5 r6 r7 r8 r9 r10 r11 r12 r13 r14 s.heap s.heap.size (Old.start s) G p e ha hc hk s m _ below hf ((Spec.applies_iff_loose hf).mp happ).1 ⟨rfl, State.Warmed39.refl s, rfl⟩ trivial
  refine ⟨n, _, h1, h2, h3, hpost _ _ _ _ _ _ ⟨Cond.after_iff.mpr rfl, Cond.after_iff.mpr (eq_i res_at (Term.int_eval (1)) rfl), trivial⟩ ⟨hq.1, hq.2.1, (hq.2.2.sift fun y hy => Or.inr (N y hy)).mono (by decide) (by decide)⟩⟩
theorem main_1_1 : Claimed_1_1 := comes_1 fun _ _ _ _ _ _ h hF => ⟨h.1, hF⟩
theorem main_1_2 : Claimed_1_2 := comes_1 fun _ _ _ _ _ _ h hF => ⟨h.2.1, hF⟩
end Jvm.Pilot.@@N@@
namespace Jvm.Pilot.@@N@@
open Jvm Jvm.ClassFile Sem Op Lib Jvm.Free Jvm.Stand Jvm.Pilot.@@N@@.Jvm.D
/-! MADE BY PROGRAM (witnessworld.py) out of the Statement's table words and the real class files: 13 classes; the members and pool entries that the words name. The judged class is class 1, her method 1. -/
namespace start1
open Jvm.ClassFile
def u (s : String) : CpInfo := .utf8 (stringToUtf16 s)
/-- a pool by its gaps: so many unusable entries, then the entry; so many at the end -/
def gap : Nat → List CpInfo → List CpInfo
  | 0, r => r
  | n + 1, r => .unusable :: gap n r
def poolList (es : List (Nat × CpInfo)) (last : Nat) : List CpInfo := es.foldr (fun e r => gap e.1 (e.2 :: r)) (gap last [])
def pool (es : List (Nat × CpInfo)) (last : Nat) : Array CpInfo := ⟨poolList es last⟩
def fileOf (pool : Array CpInfo) (this : Nat) (attrs : Array Attribute := #[]) (ms : Array MethodInfo := #[]) (fl : Nat := 33) (sup : Nat := 0) (ifs : Array Nat := #[]) (fds : Array FieldInfo := #[]) : ClassFile where
  minorVersion := 0
  majorVersion := 65
  constantPool := pool
  accessFlags := fl
  thisClass := this
  superClass := sup
  interfaces := ifs
  fields := fds
  methods := ms
  attributes := attrs
def plain (name : String) (sup : Option ClassId) : Class where
  name := name
  kind := .ordinary
  loader := none
  accessFlags := 33
  super := sup
  interfaces := #[]
  cf := none
  fields := #[]
  methods := #[]
  instanceTypes := #[]
  staticTypes := #[]
  resolved := #[]
  callSites := []
  init := .initialized
  statics := none
  mirror := none

def pool0 : Array CpInfo := pool [(5, u "<init>"), (0, u "()V"), (1, .class_ 10), (1, u "java/lang/Object")] 113

def k0m0 : Method := { name := "<init>", desc := "()V", sig := { parameters := [], returnType := none }, accessFlags := 1, code := none }
/-- java/lang/Object -/
def k0 : Class := { plain "java/lang/Object" none with
  accessFlags := 33
  interfaces := #[]
  cf := some (fileOf pool0 8 #[] #[{ accessFlags := 1, nameIndex := 5, descriptorIndex := 6, attributes := #[] }] 33 0 #[] #[])
  fields := #[]
  methods := #[k0m0]
  instanceTypes := #[]
  staticTypes := #[]
  resolved := Array.replicate 124 none
  statics := none }

def pool1 : Array CpInfo := pool [(2, .class_ 4), (1, u "java/lang/Object"), (0, u "<init>"), (0, u "()V"), (0, .class_ 8), (0, u "com/example/mimsy/mimsy/wabe/Operator"), (0, .fieldref 7 10), (0, .nameAndType 11 12), (0, u "ADD"), (0, u "Lcom/example/mimsy/mimsy/wabe/Operator;"), (0, .fieldref 7 14), (0, .nameAndType 15 12), (0, u "SUBTRACT"), (0, .fieldref 7 17), (0, .nameAndType 18 12), (0, u "MULTIPLY"), (0, .fieldref 7 20), (0, .nameAndType 21 12), (0, u "DIVIDE"), (0, .fieldref 7 23), (0, .nameAndType 24 12), (0, u "REMAINDER"), (0, .fieldref 7 26), (0, .nameAndType 27 12), (0, u "AND"), (0, .fieldref 7 29), (0, .nameAndType 30 12), (0, u "OR"), (0, .fieldref 7 32), (0, .nameAndType 33 12), (0, u "LESS"), (0, .fieldref 7 35), (0, .nameAndType 36 12), (0, u "GREATER"), (0, .fieldref 7 38), (0, .nameAndType 39 12), (0, u "EQUAL"), (0, .fieldref 7 41), (0, .nameAndType 42 12), (0, u "NOT_EQUAL"), (0, .fieldref 7 44), (0, .nameAndType 45 12), (0, u "LESS_OR_EQUAL"), (0, .fieldref 7 47), (0, .nameAndType 48 12), (0, u "GREATER_OR_EQUAL"), (0, .fieldref 7 50), (0, .nameAndType 51 12), (0, u "NOT"), (0, .fieldref 7 53), (0, .nameAndType 54 12), (0, u "NEGATE"), (0, .integer 2147483647), (0, .fieldref 7 57), (0, .nameAndType 58 59), (0, u "opcode"), (0, u "I"), (2, .methodref 7 63), (0, .nameAndType 64 65), (0, u "shortCircuits"), (0, u "()Z"), (0, .fieldref 7 67), (0, .nameAndType 68 59), (0, u "operands"), (0, .class_ 70), (0, u "com/example/mimsy/mimsy/wabe/OperatorShortCircuitsPinLaw"), (2, u "law"), (0, u "(I)Z")] 5

def k1m0 : Method := { name := "<init>", desc := "()V", sig := { parameters := [], returnType := none }, accessFlags := 1, code := none }
def k1c1 : Code := { maxStack := 4, maxLocals := 5, code := code, exceptionTable := #[], attributes := #[] }
def k1m1 : Method := { name := "law", desc := "(I)Z", sig := { parameters := [.int], returnType := some .boolean }, accessFlags := 9, code := some k1c1 }
/-- com/example/mimsy/mimsy/wabe/OperatorShortCircuitsPinLaw -/
def k1 : Class := { plain "com/example/mimsy/mimsy/wabe/OperatorShortCircuitsPinLaw" (some 0) with
  accessFlags := 49
  interfaces := #[]
  cf := some (fileOf pool1 69 #[] #[{ accessFlags := 1, nameIndex := 5, descriptorIndex := 6, attributes := #[] }, { accessFlags := 9, nameIndex := 73, descriptorIndex := 74, attributes := #[] }] 49 2 #[] #[])
  fields := #[]
  methods := #[k1m0, k1m1]
  instanceTypes := #[]
  staticTypes := #[]
  resolved := Array.replicate 80 none
  statics := none }

def pool2 : Array CpInfo := pool [(1, .class_ 2), (0, u "java/lang/constant/Constable"), (0, .class_ 4), (0, u "java/lang/Object")] 6

/-- java/lang/constant/Constable -/
def k2 : Class := { plain "java/lang/constant/Constable" (some 0) with
  accessFlags := 1537
  interfaces := #[]
  cf := some (fileOf pool2 1 #[] #[] 1537 3 #[] #[])
  fields := #[]
  methods := #[]
  instanceTypes := #[]
  staticTypes := #[]
  resolved := Array.replicate 11 none
  statics := none }

def pool3 : Array CpInfo := pool [(1, .class_ 2), (0, u "java/lang/Comparable"), (0, .class_ 4), (0, u "java/lang/Object")] 7

/-- java/lang/Comparable -/
def k3 : Class := { plain "java/lang/Comparable" (some 0) with
  accessFlags := 1537
  interfaces := #[]
  cf := some (fileOf pool3 1 #[] #[] 1537 3 #[] #[])
  fields := #[]
  methods := #[]
  instanceTypes := #[]
  staticTypes := #[]
  resolved := Array.replicate 12 none
  statics := none }

def pool4 : Array CpInfo := pool [(1, .class_ 2), (0, u "java/io/Serializable"), (0, .class_ 4), (0, u "java/lang/Object")] 2

/-- java/io/Serializable -/
def k4 : Class := { plain "java/io/Serializable" (some 0) with
  accessFlags := 1537
  interfaces := #[]
  cf := some (fileOf pool4 1 #[] #[] 1537 3 #[] #[])
  fields := #[]
  methods := #[]
  instanceTypes := #[]
  staticTypes := #[]
  resolved := Array.replicate 7 none
  statics := none }

def pool5 : Array CpInfo := pool [(2, .class_ 4), (1, u "java/lang/Enum"), (0, u "name"), (0, u "Ljava/lang/String;"), (2, u "ordinal"), (0, u "I"), (1, .class_ 14), (1, u "java/lang/Object"), (4, u "hash"), (86, .class_ 108), (1, u "java/lang/Enum$EnumDesc"), (2, .class_ 112), (0, u "java/lang/constant/Constable"), (0, .class_ 114), (0, u "java/lang/Comparable"), (0, .class_ 116), (0, u "java/io/Serializable")] 87

/-- java/lang/Enum -/
def k5 : Class := { plain "java/lang/Enum" (some 0) with
  accessFlags := 1057
  interfaces := #[2, 3, 4]
  cf := some (fileOf pool5 2 #[.nestMembers #[106]] #[] 1057 12 #[111, 113, 115] #[{ accessFlags := 18, nameIndex := 5, descriptorIndex := 6, attributes := #[] }, { accessFlags := 18, nameIndex := 9, descriptorIndex := 10, attributes := #[] }, { accessFlags := 2, nameIndex := 19, descriptorIndex := 10, attributes := #[] }])
  fields := #[{ name := "name", type := (.object "java/lang/String"), accessFlags := 18, slot := 0, constantValue := 0 }, { name := "ordinal", type := .int, accessFlags := 18, slot := 1, constantValue := 0 }, { name := "hash", type := .int, accessFlags := 2, slot := 2, constantValue := 0 }]
  methods := #[]
  instanceTypes := #[(.object "java/lang/String"), .int, .int]
  staticTypes := #[]
  resolved := Array.replicate 204 none
  statics := none }

def pool6 : Array CpInfo := pool [(1, .class_ 2), (0, u "com/example/mimsy/mimsy/wabe/Operator"), (2, u "ADD"), (0, u "Lcom/example/mimsy/mimsy/wabe/Operator;"), (2, u "SUBTRACT"), (2, u "MULTIPLY"), (2, u "DIVIDE"), (2, u "REMAINDER"), (0, .fieldref 1 20), (0, .nameAndType 21 6), (0, u "AND"), (0, .fieldref 1 23), (0, .nameAndType 24 6), (0, u "OR"), (2, u "LESS"), (2, u "GREATER"), (2, u "EQUAL"), (2, u "NOT_EQUAL"), (2, u "LESS_OR_EQUAL"), (2, u "GREATER_OR_EQUAL"), (2, u "NOT"), (2, u "NEGATE"), (2, u "$VALUES"), (0, u "[Lcom/example/mimsy/mimsy/wabe/Operator;"), (6, .class_ 61), (1, u "java/lang/Enum"), (8, u "spelling"), (0, u "Ljava/lang/String;"), (2, u "operands"), (0, u "I"), (2, u "opcode"), (2, u "ALL"), (76, u "shortCircuits"), (0, u "()Z")] 5

def k6c0 : Code := { maxStack := 2, maxLocals := 1, code := prog_168_method_5_code, exceptionTable := #[], attributes := #[] }
def k6m0 : Method := { name := "shortCircuits", desc := "()Z", sig := { parameters := [], returnType := some .boolean }, accessFlags := 0, code := some k6c0 }
/-- com/example/mimsy/mimsy/wabe/Operator -/
def k6 : Class := { plain "com/example/mimsy/mimsy/wabe/Operator" (some 5) with
  accessFlags := 16432
  interfaces := #[]
  cf := some (fileOf pool6 1 #[] #[{ accessFlags := 0, nameIndex := 158, descriptorIndex := 159, attributes := #[] }] 16432 59 #[] #[{ accessFlags := 16409, nameIndex := 5, descriptorIndex := 6, attributes := #[] }, { accessFlags := 16409, nameIndex := 9, descriptorIndex := 6, attributes := #[] }, { accessFlags := 16409, nameIndex := 12, descriptorIndex := 6, attributes := #[] }, { accessFlags := 16409, nameIndex := 15, descriptorIndex := 6, attributes := #[] }, { accessFlags := 16409, nameIndex := 18, descriptorIndex := 6, attributes := #[] }, { accessFlags := 16409, nameIndex := 21, descriptorIndex := 6, attributes := #[] }, { accessFlags := 16409, nameIndex := 24, descriptorIndex := 6, attributes := #[] }, { accessFlags := 16409, nameIndex := 27, descriptorIndex := 6, attributes := #[] }, { accessFlags := 16409, nameIndex := 30, descriptorIndex := 6, attributes := #[] }, { accessFlags := 16409, nameIndex := 33, descriptorIndex := 6, attributes := #[] }, { accessFlags := 16409, nameIndex := 36, descriptorIndex := 6, attributes := #[] }, { accessFlags := 16409, nameIndex := 39, descriptorIndex := 6, attributes := #[] }, { accessFlags := 16409, nameIndex := 42, descriptorIndex := 6, attributes := #[] }, { accessFlags := 16409, nameIndex := 45, descriptorIndex := 6, attributes := #[] }, { accessFlags := 16409, nameIndex := 48, descriptorIndex := 6, attributes := #[] }, { accessFlags := 26, nameIndex := 81, descriptorIndex := 52, attributes := #[] }, { accessFlags := 16, nameIndex := 70, descriptorIndex := 71, attributes := #[] }, { accessFlags := 16, nameIndex := 74, descriptorIndex := 75, attributes := #[] }, { accessFlags := 16, nameIndex := 78, descriptorIndex := 75, attributes := #[] }, { accessFlags := 4122, nameIndex := 51, descriptorIndex := 52, attributes := #[] }])
  fields := #[{ name := "ADD", type := (.object "com/example/mimsy/mimsy/wabe/Operator"), accessFlags := 16409, slot := 0, constantValue := 0 }, { name := "SUBTRACT", type := (.object "com/example/mimsy/mimsy/wabe/Operator"), accessFlags := 16409, slot := 1, constantValue := 0 }, { name := "MULTIPLY", type := (.object "com/example/mimsy/mimsy/wabe/Operator"), accessFlags := 16409, slot := 2, constantValue := 0 }, { name := "DIVIDE", type := (.object "com/example/mimsy/mimsy/wabe/Operator"), accessFlags := 16409, slot := 3, constantValue := 0 }, { name := "REMAINDER", type := (.object "com/example/mimsy/mimsy/wabe/Operator"), accessFlags := 16409, slot := 4, constantValue := 0 }, { name := "AND", type := (.object "com/example/mimsy/mimsy/wabe/Operator"), accessFlags := 16409, slot := 5, constantValue := 0 }, { name := "OR", type := (.object "com/example/mimsy/mimsy/wabe/Operator"), accessFlags := 16409, slot := 6, constantValue := 0 }, { name := "LESS", type := (.object "com/example/mimsy/mimsy/wabe/Operator"), accessFlags := 16409, slot := 7, constantValue := 0 }, { name := "GREATER", type := (.object "com/example/mimsy/mimsy/wabe/Operator"), accessFlags := 16409, slot := 8, constantValue := 0 }, { name := "EQUAL", type := (.object "com/example/mimsy/mimsy/wabe/Operator"), accessFlags := 16409, slot := 9, constantValue := 0 }, { name := "NOT_EQUAL", type := (.object "com/example/mimsy/mimsy/wabe/Operator"), accessFlags := 16409, slot := 10, constantValue := 0 }, { name := "LESS_OR_EQUAL", type := (.object "com/example/mimsy/mimsy/wabe/Operator"), accessFlags := 16409, slot := 11, constantValue := 0 }, { name := "GREATER_OR_EQUAL", type := (.object "com/example/mimsy/mimsy/wabe/Operator"), accessFlags := 16409, slot := 12, constantValue := 0 }, { name := "NOT", type := (.object "com/example/mimsy/mimsy/wabe/Operator"), accessFlags := 16409, slot := 13, constantValue := 0 }, { name := "NEGATE", type := (.object "com/example/mimsy/mimsy/wabe/Operator"), accessFlags := 16409, slot := 14, constantValue := 0 }, { name := "ALL", type := (.array (.object "com/example/mimsy/mimsy/wabe/Operator")), accessFlags := 26, slot := 15, constantValue := 0 }, { name := "spelling", type := (.object "java/lang/String"), accessFlags := 16, slot := 3, constantValue := 0 }, { name := "operands", type := .int, accessFlags := 16, slot := 4, constantValue := 0 }, { name := "opcode", type := .int, accessFlags := 16, slot := 5, constantValue := 0 }, { name := "$VALUES", type := (.array (.object "com/example/mimsy/mimsy/wabe/Operator")), accessFlags := 4122, slot := 16, constantValue := 0 }]
  methods := #[k6m0]
  instanceTypes := #[(.object "java/lang/String"), .int, .int, (.object "java/lang/String"), .int, .int]
  staticTypes := #[(.object "com/example/mimsy/mimsy/wabe/Operator"), (.object "com/example/mimsy/mimsy/wabe/Operator"), (.object "com/example/mimsy/mimsy/wabe/Operator"), (.object "com/example/mimsy/mimsy/wabe/Operator"), (.object "com/example/mimsy/mimsy/wabe/Operator"), (.object "com/example/mimsy/mimsy/wabe/Operator"), (.object "com/example/mimsy/mimsy/wabe/Operator"), (.object "com/example/mimsy/mimsy/wabe/Operator"), (.object "com/example/mimsy/mimsy/wabe/Operator"), (.object "com/example/mimsy/mimsy/wabe/Operator"), (.object "com/example/mimsy/mimsy/wabe/Operator"), (.object "com/example/mimsy/mimsy/wabe/Operator"), (.object "com/example/mimsy/mimsy/wabe/Operator"), (.object "com/example/mimsy/mimsy/wabe/Operator"), (.object "com/example/mimsy/mimsy/wabe/Operator"), (.array (.object "com/example/mimsy/mimsy/wabe/Operator")), (.array (.object "com/example/mimsy/mimsy/wabe/Operator"))]
  resolved := Array.replicate 165 none
  statics := some 0 }

def pool7 : Array CpInfo := pool [(1, u "java/lang/Cloneable"), (0, .class_ 1), (0, u "java/lang/Object"), (0, .class_ 3)] 3

/-- java/lang/Cloneable -/
def k7 : Class := { plain "java/lang/Cloneable" (some 0) with
  accessFlags := 1537
  interfaces := #[]
  cf := some (fileOf pool7 2 #[] #[] 1537 4 #[] #[])
  fields := #[]
  methods := #[]
  instanceTypes := #[]
  staticTypes := #[]
  resolved := Array.replicate 8 none
  statics := none }

/-- the primitive byte -/
def k8 : Class := { plain "byte" none with kind := .primitive 'B', accessFlags := 0x411 }
/-- [B -/
def k9 : Class := { plain "[B" (some 0) with kind := .array 8 .byte, interfaces := #[7, 4], accessFlags := 1041 }

/-- the primitive int -/
def k10 : Class := { plain "int" none with kind := .primitive 'I', accessFlags := 0x411 }
/-- [I -/
def k11 : Class := { plain "[I" (some 0) with kind := .array 10 .int, interfaces := #[7, 4], accessFlags := 1041 }

/-- [Lcom/example/mimsy/mimsy/wabe/Operator; -/
def k12 : Class := { plain "[Lcom/example/mimsy/mimsy/wabe/Operator;" (some 0) with kind := .array 6 (.object "com/example/mimsy/mimsy/wabe/Operator"), interfaces := #[7, 4], accessFlags := 1041 }

def heap : Heap := #[{ cls := 6, slots := #[.ref 1, .ref 2, .ref 3, .ref 4, .ref 5, .ref 6, .ref 7, .ref 8, .ref 9, .ref 10, .ref 11, .ref 12, .ref 13, .ref 14, .ref 15, .null, .null], vm := .statics 6 },
  { cls := 6, slots := #[.null, .int 0, .int 0, .null, .int 2, .int 12], vm := .none },
  { cls := 6, slots := #[.null, .int 1, .int 0, .null, .int 2, .int 13], vm := .none },
  { cls := 6, slots := #[.null, .int 2, .int 0, .null, .int 2, .int 14], vm := .none },
  { cls := 6, slots := #[.null, .int 3, .int 0, .null, .int 2, .int 15], vm := .none },
  { cls := 6, slots := #[.null, .int 4, .int 0, .null, .int 2, .int 16], vm := .none },
  { cls := 6, slots := #[.null, .int 5, .int 0, .null, .int 2, .int 7], vm := .none },
  { cls := 6, slots := #[.null, .int 6, .int 0, .null, .int 2, .int 8], vm := .none },
  { cls := 6, slots := #[.null, .int 7, .int 0, .null, .int 2, .int 17], vm := .none },
  { cls := 6, slots := #[.null, .int 8, .int 0, .null, .int 2, .int 18], vm := .none },
  { cls := 6, slots := #[.null, .int 9, .int 0, .null, .int 2, .int 19], vm := .none },
  { cls := 6, slots := #[.null, .int 10, .int 0, .null, .int 2, .int 20], vm := .none },
  { cls := 6, slots := #[.null, .int 11, .int 0, .null, .int 2, .int 21], vm := .none },
  { cls := 6, slots := #[.null, .int 12, .int 0, .null, .int 2, .int 22], vm := .none },
  { cls := 6, slots := #[.null, .int 13, .int 0, .null, .int 1, .int 10], vm := .none },
  { cls := 6, slots := #[.null, .int 14, .int 0, .null, .int 1, .int 11], vm := .none }]
def classes : Array Class := #[k0, k1, k2, k3, k4, k5, k6, k7, k8, k9, k10, k11, k12]
def interned : List (Array UInt16 × Addr) := []
def slotsUsed : Nat := 107
def theMethod : MethodId := ⟨1, 1⟩
def args0 : Array Value := #[.int 5]
def aboutOver (below : List Frame) : State where
  vm := { classes := classes, interned := interned.toArray }
  heap := heap
  slotsUsed := slotsUsed
  threads := #[{ frames := .invoking theMethod args0 :: below }]
def below0 : List Frame := [.native { method := ⟨0, 0⟩, args := #[] }]
def about1 : State := aboutOver below0
def p0 : Program := .bare "" "" ""
def e0 : Env := launch0.env 0 0 0
theorem w_frames : about1.frames = Frame.invoking theMethod args0 :: below0 := rfl
set_option maxRecDepth 65536 in
theorem w_args : argsFit about1.vm theMethod args0 = true := by decide +kernel
set_option maxRecDepth 65536 in
theorem w_heap : heapFits about1 = true := by decide +kernel
set_option maxRecDepth 65536 in
theorem w_runnable : about1.curStatus? = some .runnable := by decide +kernel
set_option maxRecDepth 65536 in
theorem w_alone : about1.alone = true := by decide +kernel
set_option maxRecDepth 65536 in
theorem w_named : about1.methodNamed? x = some theMethod := by decide +kernel
set_option maxRecDepth 65536 in
theorem w_hears : about1.hears theMethod below0 = true := by decide +kernel
set_option maxRecDepth 65536 in
theorem w_ripe : about1.ripe theMethod args0 below0 = true := by decide +kernel
theorem w_running : about1.status = .running := rfl
set_option maxRecDepth 65536 in
theorem w_room : about1.hasRoom e0.platform room_1 = true :=
  launch0.hasRoom_least _ room_1 (by decide +kernel) (by decide +kernel) (by decide +kernel) (by decide +kernel) (by decide +kernel) (by decide +kernel)
theorem allAtoms_all (ts : List Jvm.Cond) (a : Array Jvm.Value) (st : Jvm.State) : (allAtoms ts).before a st = ts.all (fun c => c.before a st) := by
  induction ts with
  | nil => rfl
  | cons c t ih =>
    show (Jvm.Cond.and c (allAtoms t)).before a st = _
    rw [Jvm.Cond.before_and, ih, List.all_cons]
def words1 : List Jvm.Cond := Jvm.Cond.code x code maxLocals ret :: tables_1
/-- a 'code' word, met by the world's own term for the bytes: nothing is compared byte by byte -/
theorem code_word {y : MethodName} {bytes : ByteArray} {mx : Nat} {rt : Option FieldType} {a : Array Value} {s : State} {m : MethodId} {meth : Method} {c : Code} (h1 : s.methodNamed? y = some m) (h2 : s.vm.method? m = some meth) (h3 : meth.code = some c) (h4 : c.code = bytes)
    (h5 : (c.maxLocals == mx && c.exceptionTable.isEmpty && decide (c.maxStack ≤ mostOperands) && decide (meth.sig.returnType = rt) && !meth.locks && decide (parseMethodDescriptor y.desc = some meth.sig)) = true) : (Jvm.Cond.code y bytes mx rt).before a s = true := by
  simp only [Bool.and_eq_true, beq_iff_eq, Bool.not_eq_true', decide_eq_true_eq] at h5
  obtain ⟨⟨⟨⟨⟨g1, g2⟩, g3⟩, g4⟩, g5⟩, g6⟩ := h5
  simp [Cond.before, Cond.holds, Cond.value, h1, h2, h3, h4, g1, g2, g3, g4, g5, g6]
def isCode : Jvm.Cond → Bool
  | .code _ _ _ _ => true
  | _ => false
theorem all_split {L : List Jvm.Cond} {P : Jvm.Cond → Bool} (h1 : L.all (fun c => isCode c || P c) = true) (h2 : ∀ c ∈ L.filter isCode, P c = true) : L.all P = true := by
  refine List.all_eq_true.mpr fun c hc => ?_
  have h := List.all_eq_true.mp h1 c hc
  rcases Bool.eq_false_or_eq_true (isCode c) with hi | hi
  · exact h2 c (List.mem_filter.mpr ⟨hc, hi⟩)
  · simpa [hi] using h
set_option maxRecDepth 65536 in
theorem w_c0 : (Jvm.Cond.code x code maxLocals ret).before args0 about1 = true := code_word (m := ⟨1, 1⟩) (meth := k1m1) (c := k1c1) (by decide +kernel) rfl rfl rfl (by decide +kernel)
set_option maxRecDepth 65536 in
theorem w_c1 : (Jvm.Cond.code ({ cls := "com/example/mimsy/mimsy/wabe/Operator", name := "shortCircuits", desc := "()Z" } : Jvm.MethodName) prog_168_method_5_code (1 : Nat) (Option.some Jvm.ClassFile.FieldType.boolean)).before args0 about1 = true := code_word (m := ⟨6, 0⟩) (meth := k6m0) (c := k6c0) (by decide +kernel) rfl rfl rfl (by decide +kernel)
def codes1 : List Jvm.Cond := [Jvm.Cond.code x code maxLocals ret, Jvm.Cond.code ({ cls := "com/example/mimsy/mimsy/wabe/Operator", name := "shortCircuits", desc := "()Z" } : Jvm.MethodName) prog_168_method_5_code (1 : Nat) (Option.some Jvm.ClassFile.FieldType.boolean)]
set_option maxRecDepth 65536 in
theorem codes_eq : words1.filter isCode = codes1 := rfl
theorem w_codes : ∀ c ∈ words1.filter isCode, c.before args0 about1 = true := by
  rw [codes_eq]
  intro c hc
  simp only [codes1, List.mem_cons, List.not_mem_nil, or_false] at hc
  rcases hc with rfl | rfl
  · exact w_c0
  · exact w_c1
set_option maxRecDepth 65536 in
theorem w_t1 : (words1.take 24).all (fun c => isCode c || c.before args0 about1) = true := by decide +kernel
set_option maxRecDepth 65536 in
theorem w_t2 : (words1.drop 24).all (fun c => isCode c || c.before args0 about1) = true := by decide +kernel
theorem w_tables : (allAtoms (Jvm.Cond.code x code maxLocals ret :: tables_1)).before args0 about1 = true := by
  rw [allAtoms_all]
  show words1.all (fun c => c.before args0 about1) = true
  refine all_split ?_ w_codes
  rw [← List.take_append_drop 24 words1, List.all_append, w_t1, w_t2]
  rfl
set_option maxRecDepth 65536 in
theorem w_case : (Jvm.Cond.and given_1 narrow_1).before args0 about1 = true := by decide +kernel
theorem w_applies : (headSpec (Jvm.Cond.code x code maxLocals ret :: tables_1) room_1).applies x e0.platform about1 = true :=
  (Spec.applies_iff w_frames).mpr ⟨w_running, w_runnable, w_alone, w_named, w_hears, w_ripe, w_room, w_tables⟩
theorem atStart : AtStart classFile x code maxLocals ret World_1 tables_1 room_1 Calls_1 rest_1 Pre_1 launch0 p0 e0 about1 theMethod args0 below0 :=
  ⟨lists_1, trivial, launch0.admits_env _ _ _, launch0.least_env, fairChoices_fair.cas, fairChoices_fair.clock, w_frames, w_args, w_heap, w_applies, trivial, trivial, w_case⟩
end start1
theorem witness_1 : WitnessClaimed_1 := ⟨start1.p0, start1.e0, start1.about1, start1.theMethod, start1.args0, start1.below0, start1.atStart⟩
end Jvm.Pilot.@@N@@
