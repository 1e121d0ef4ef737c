import JvmDerived
import JvmDerived.Pilot.@@N@@Statement
import JvmDerived.Pilot.@@N@@Code
set_option linter.unusedVariables false
set_option linter.unusedSimpArgs false
@@BLOCK:NumsL.lean.txt@@
namespace Jvm.RoadKit
open Sem ClassFile Op Lib Jvm.Stand Jvm.Free Jvm.LawKit
section New
variable {p : Program} {l : Launch} {e : Env} {R : Room} {s : State} {m : MethodId} {args : Array Value} {below : List Frame} {meth : Method} {c : Code} {T : State} {locs : List Loc} {cells slots : Nat}
theorem retI (X : Stand p l e R s m args below meth c T locs cells slots) (hx : p.tables.exec = Jvm.exec) {pc : Nat} {Ls : Array Slot} {z : Int32} {rest : List Value} (hret : meth.sig.returnType = some .int) (hd : decode c.code pc = .ok (.ireturn, 1)) {fs : List Frame}
    (hl : ∀ (f : JFrame) (acts : List Action), f.method = m → f.locked = none → f.entered = [] → (doReturn e (T.setTop f) acts (some (.int z))).1 = T.setFrames fs) : Steps p.tables e below (T.setTop (mkF m pc Ls (.int z :: rest))) (T.setFrames fs) := by
  have hm' : T.vm.method? m = some meth := X.method'
  have hn : narrow .int (.int z) = .int z := rfl
  show Steps p.tables e below (T.setTop { method := m, pc := pc, locals := Ls, stack := _ :: rest, locked := none }) _
  jvm_step X.here [X.here.top, hx, hd, hm', hret, hn]
  first | (intro acts; rw [hl _ acts rfl rfl rfl]) | rw [hl _ _ rfl rfl rfl]
  exact Steps.refl _
end New
end Jvm.RoadKit
namespace Jvm.Pilot.@@N@@
open Jvm Jvm.ClassFile Sem Op Lib Jvm.Free Jvm.Stand Jvm.LawKit Jvm.RoadKit Bundle Jvm.Pilot.@@N@@.Jvm.D
section Own
variable {p : Program} {l : Launch} {e : Env} {R : Room} {s : State} {m : MethodId} {args : Array Value} {below : List Frame} {meth : Method} {c : Code} {T T' : State} {locs : List Loc} {cells slots kc ks : Nat} {Q : Option Value → Heap → List Loc → Prop} {g g' : JFrame}
/-- From the frame g over T the body comes to its return, with what Q says of the value, the heap and the places written. -/
def own_Ends (p : Program) (e : Env) (below : List Frame) (s : State) (Q : Option Value → Heap → List Loc → Prop) (kc ks : Nat) (T : State) (g : JFrame) : Prop :=
  ∃ s₂ o, Steps p.tables e below (T.setTop g) s₂ ∧ s₂.status = .running ∧ Ended s₂ below o ∧ ∃ v L, o = .returned v ∧ Q v s₂.heap L ∧ FrameEnd s o s₂ L kc ks
theorem own_st (h : ∀ target, Steps p.tables e below (T'.setTop g') target → Steps p.tables e below (T.setTop g) target) (k : own_Ends p e below s Q kc ks T' g') : own_Ends p e below s Q kc ks T g := by
  obtain ⟨s₂, o, h1, r⟩ := k
  exact ⟨s₂, o, h _ h1, r⟩
theorem own_tr (h : Steps p.tables e below (T.setTop g) (T'.setTop g')) (k : own_Ends p e below s Q kc ks T' g') : own_Ends p e below s Q kc ks T g :=
  own_st (fun _ q => h.trans q) k
theorem own_retN (X : Stand p l e R s m args below meth c T locs cells slots) (hx : p.tables.exec = Jvm.exec) {pc : Nat} {Ls : Array Slot} {z w : Int32} {t : FieldType} {rest : List Value} (hret : meth.sig.returnType = some t) (ht : t = .boolean ∨ t = .byte ∨ t = .char ∨ t = .short)
    (hd : decode c.code pc = .ok (.ireturn, 1)) (hlk : meth.locks = false) (hc : cells ≤ kc) (hs : slots ≤ ks) (hw : nar t z = w) (hQ : Q (some (.int w)) T.heap locs) : own_Ends p e below s Q kc ks T (mkF m pc Ls (.int z :: rest)) := by
  obtain ⟨fs, hr, hrun, hended, hW, hsame⟩ := X.leave (v := some (.int (nar t z))) (fun h => by rw [hret] at h; cases h) hlk
  subst hw
  exact ⟨_, _, retN X hx hret ht hd hr, hrun, hended, _, _, rfl, hQ, ⟨_, rfl⟩, hW, hsame.mono hc hs⟩
theorem own_retI (X : Stand p l e R s m args below meth c T locs cells slots) (hx : p.tables.exec = Jvm.exec) {pc : Nat} {Ls : Array Slot} {z : Int32} {rest : List Value} (hret : meth.sig.returnType = some .int)
    (hd : decode c.code pc = .ok (.ireturn, 1)) (hlk : meth.locks = false) (hc : cells ≤ kc) (hs : slots ≤ ks) (hQ : Q (some (.int z)) T.heap locs) : own_Ends p e below s Q kc ks T (mkF m pc Ls (.int z :: rest)) := by
  obtain ⟨fs, hr, hrun, hended, hW, hsame⟩ := X.leave (v := some (.int z)) (fun h => by rw [hret] at h; cases h) hlk
  exact ⟨_, _, retI X hx hret hd hr, hrun, hended, _, _, rfl, hQ, ⟨_, rfl⟩, hW, hsame.mono hc hs⟩
theorem own_retA (X : Stand p l e R s m args below meth c T locs cells slots) (hx : p.tables.exec = Jvm.exec) {pc : Nat} {Ls : Array Slot} {w : Value} {t : FieldType} {rest : List Value} (hret : meth.sig.returnType = some t) (ht : t.isReference = true) (hr : w.isRef = true) (hn : narrow t w = w)
    (hd : decode c.code pc = .ok (.areturn, 1)) (hlk : meth.locks = false) (hc : cells ≤ kc) (hs : slots ≤ ks) (hQ : Q (some w) T.heap locs) : own_Ends p e below s Q kc ks T (mkF m pc Ls (w :: rest)) := by
  obtain ⟨fs, hl, hrun, hended, hW, hsame⟩ := X.leave (v := some w) (fun h => by rw [hret] at h; cases h) hlk
  exact ⟨_, _, retOut X hx hret hn (Or.inr (Or.inr (Or.inr (Or.inr ⟨rfl, ht, hr⟩)))) hd hl, hrun, hended, _, _, rfl, hQ, ⟨_, rfl⟩, hW, hsame.mono hc hs⟩
theorem own_retV (X : Stand p l e R s m args below meth c T locs cells slots) (hx : p.tables.exec = Jvm.exec) {pc : Nat} {Ls : Array Slot} (hret : meth.sig.returnType = none)
    (hd : decode c.code pc = .ok (.return_, 1)) (hlk : meth.locks = false) (hc : cells ≤ kc) (hs : slots ≤ ks) (hQ : Q none T.heap locs) : own_Ends p e below s Q kc ks T (mkF m pc Ls []) := by
  obtain ⟨fs, hr, hrun, hended, hW, hsame⟩ := X.leave (v := none) (fun _ => rfl) hlk
  exact ⟨_, _, X.returnOut hx hret hd hr, hrun, hended, _, _, rfl, hQ, ⟨_, rfl⟩, hW, hsame.mono hc hs⟩
end Own
section OwnFacts
variable {args : Array Value} {Z : State} {t t2 : Term} {x y : Addr} {C n d : String} {k : Int32}
theorem own_fldI (ev : t.eval args Z none [] Z = some (.ref x)) (h : (Cond.eq (.field t C n d) (.int k)).value args Z none Z [] = some true) : Fld Z Z.heap x C n d (.int k) := by
  obtain ⟨u, w, h1, h2, q, -⟩ := cmp_v (Or.inl h)
  cases (Term.int_eval k).symm.trans h2
  cases u <;> simp [Cond.value, h1, Term.int_eval] at h
  subst h
  exact Fld.start (by rw [← fld_at ev]; exact h1)
theorem own_fldN (ev : t.eval args Z none [] Z = some (.ref x)) (h : (Cond.eq (.field t C n d) .null).value args Z none Z [] = some true) : Fld Z Z.heap x C n d .null :=
  Fld.start (by rw [← fld_at ev]; exact null_v h)
theorem own_fldR (ev : t.eval args Z none [] Z = some (.ref x)) (ev2 : t2.eval args Z none [] Z = some (.ref y)) (h : (Cond.eq (.field t C n d) t2).value args Z none Z [] = some true) : Fld Z Z.heap x C n d (.ref y) := by
  obtain ⟨u, w, h1, h2, -, -⟩ := cmp_v (Or.inl h)
  cases ev2.symm.trans h2
  cases u <;> simp [Cond.value, h1, ev2] at h
  subst h
  exact Fld.start (by rw [← fld_at ev]; exact h1)
end OwnFacts
section OwnArr
variable {p : Program} {l : Launch} {e : Env} {R : Room} {s : State} {m : MethodId} {args : Array Value} {below : List Frame} {meth : Method} {c : Code} {T : State} {locs : List Loc} {cells slots : Nat} {Z : State} {h : Heap} {a y : Addr} {k : ClassId} {C : String} {z j : Int32} {vs : List Value}
theorem own_fill (X : Stand p l e R s m args below meth c T locs cells slots) (hx : p.tables.exec = Jvm.exec) (hZ : Z.Warmed39 s.vm) (eT : T.heap = h) (V : Arv Z h a k (.object C) z vs .null) (Ov : Ovr Z k C) (Iy : Ins Z h y C true) (i : Nat) (hj : j.toNatClampNeg = i) (hi : i < vs.length) (hjz : ¬ j < 0 ∧ j < z)
    {g : JFrame} (hg : g.method = m) {rest : List Value} (hs : g.stack = .ref y :: .int j :: .ref a :: rest) (hd : decode c.code g.pc = .ok (.aastore, 1)) :
    ∃ T' h', Stand p l e R s m args below meth c T' (locs ++ [⟨a, j.toNatClampNeg⟩]) cells slots ∧ T'.heap = h' ∧ Wr h h' a j.toNatClampNeg (.ref y) ∧ Arv Z h' a k (.object C) z (vs.set i (.ref y)) .null ∧
      ∀ target, Steps p.tables e below (T'.setTop { g with pc := g.pc + 1, stack := rest }) target → Steps p.tables e below (T.setTop g) target := by
  obtain ⟨cl, Ar, q, S, M, H, G⟩ := V
  obtain ⟨T', h', X', e', W, st⟩ := stR X hx hZ eT Ar (j := j) (inb_of S hjz) rfl (Sto.ofV Ar q Ov Iy) hg hs hd
  exact ⟨T', h', X', e', W, Arv.set Ar q S M H G rfl W i hj hi, st⟩
end OwnArr
def own_W (Z : State) (r0 r1 r2 r3 r4 r5 r6 r7 r8 r9 r10 r11 r12 r13 r14 r15 r16 r17 r18 : Addr) : Prop := Sta Z Z.heap "com/example/consistent_answers/consistentanswers/ontology/Datatype" "LITERAL" "Lcom/example/consistent_answers/consistentanswers/ontology/Datatype;" (.ref r0) ∧ Exa Z Z.heap r0 "com/example/consistent_answers/consistentanswers/ontology/Datatype" ∧ Sta Z Z.heap "com/example/consistent_answers/consistentanswers/ontology/Datatype" "PLAIN_LITERAL" "Lcom/example/consistent_answers/consistentanswers/ontology/Datatype;" (.ref r1) ∧ Exa Z Z.heap r1 "com/example/consistent_answers/consistentanswers/ontology/Datatype" ∧ Sta Z Z.heap "com/example/consistent_answers/consistentanswers/ontology/Datatype" "STRING" "Lcom/example/consistent_answers/consistentanswers/ontology/Datatype;" (.ref r2) ∧ Exa Z Z.heap r2 "com/example/consistent_answers/consistentanswers/ontology/Datatype" ∧ Sta Z Z.heap "com/example/consistent_answers/consistentanswers/ontology/Datatype" "NORMALIZED_STRING" "Lcom/example/consistent_answers/consistentanswers/ontology/Datatype;" (.ref r3) ∧ Exa Z Z.heap r3 "com/example/consistent_answers/consistentanswers/ontology/Datatype" ∧ Sta Z Z.heap "com/example/consistent_answers/consistentanswers/ontology/Datatype" "TOKEN" "Lcom/example/consistent_answers/consistentanswers/ontology/Datatype;" (.ref r4) ∧ Exa Z Z.heap r4 "com/example/consistent_answers/consistentanswers/ontology/Datatype" ∧ Sta Z Z.heap "com/example/consistent_answers/consistentanswers/ontology/Datatype" "NMTOKEN" "Lcom/example/consistent_answers/consistentanswers/ontology/Datatype;" (.ref r5) ∧ Exa Z Z.heap r5 "com/example/consistent_answers/consistentanswers/ontology/Datatype" ∧ Sta Z Z.heap "com/example/consistent_answers/consistentanswers/ontology/Datatype" "NAME" "Lcom/example/consistent_answers/consistentanswers/ontology/Datatype;" (.ref r6) ∧ Exa Z Z.heap r6 "com/example/consistent_answers/consistentanswers/ontology/Datatype" ∧ Sta Z Z.heap "com/example/consistent_answers/consistentanswers/ontology/Datatype" "NCNAME" "Lcom/example/consistent_answers/consistentanswers/ontology/Datatype;" (.ref r7) ∧ Exa Z Z.heap r7 "com/example/consistent_answers/consistentanswers/ontology/Datatype" ∧ Sta Z Z.heap "com/example/consistent_answers/consistentanswers/ontology/Datatype" "REAL" "Lcom/example/consistent_answers/consistentanswers/ontology/Datatype;" (.ref r8) ∧ Exa Z Z.heap r8 "com/example/consistent_answers/consistentanswers/ontology/Datatype" ∧ Sta Z Z.heap "com/example/consistent_answers/consistentanswers/ontology/Datatype" "RATIONAL" "Lcom/example/consistent_answers/consistentanswers/ontology/Datatype;" (.ref r9) ∧ Exa Z Z.heap r9 "com/example/consistent_answers/consistentanswers/ontology/Datatype" ∧ Sta Z Z.heap "com/example/consistent_answers/consistentanswers/ontology/Datatype" "DECIMAL" "Lcom/example/consistent_answers/consistentanswers/ontology/Datatype;" (.ref r10) ∧ Exa Z Z.heap r10 "com/example/consistent_answers/consistentanswers/ontology/Datatype" ∧ Sta Z Z.heap "com/example/consistent_answers/consistentanswers/ontology/Datatype" "INTEGER" "Lcom/example/consistent_answers/consistentanswers/ontology/Datatype;" (.ref r11) ∧ Exa Z Z.heap r11 "com/example/consistent_answers/consistentanswers/ontology/Datatype" ∧ Sta Z Z.heap "com/example/consistent_answers/consistentanswers/ontology/Datatype" "NON_NEGATIVE_INTEGER" "Lcom/example/consistent_answers/consistentanswers/ontology/Datatype;" (.ref r12) ∧ Exa Z Z.heap r12 "com/example/consistent_answers/consistentanswers/ontology/Datatype" ∧ Sta Z Z.heap "com/example/consistent_answers/consistentanswers/ontology/Datatype" "DATE_TIME" "Lcom/example/consistent_answers/consistentanswers/ontology/Datatype;" (.ref r13) ∧ Exa Z Z.heap r13 "com/example/consistent_answers/consistentanswers/ontology/Datatype" ∧ Sta Z Z.heap "com/example/consistent_answers/consistentanswers/ontology/Datatype" "DATE_TIME_STAMP" "Lcom/example/consistent_answers/consistentanswers/ontology/Datatype;" (.ref r14) ∧ Exa Z Z.heap r14 "com/example/consistent_answers/consistentanswers/ontology/Datatype" ∧ Sta Z Z.heap "com/example/consistent_answers/consistentanswers/ontology/Datatype" "XML_LITERAL" "Lcom/example/consistent_answers/consistentanswers/ontology/Datatype;" (.ref r15) ∧ Exa Z Z.heap r15 "com/example/consistent_answers/consistentanswers/ontology/Datatype" ∧ Sta Z Z.heap "com/example/consistent_answers/consistentanswers/ontology/Datatype" "HEX_BINARY" "Lcom/example/consistent_answers/consistentanswers/ontology/Datatype;" (.ref r16) ∧ Exa Z Z.heap r16 "com/example/consistent_answers/consistentanswers/ontology/Datatype" ∧ Sta Z Z.heap "com/example/consistent_answers/consistentanswers/ontology/Datatype" "BASE64_BINARY" "Lcom/example/consistent_answers/consistentanswers/ontology/Datatype;" (.ref r17) ∧ Exa Z Z.heap r17 "com/example/consistent_answers/consistentanswers/ontology/Datatype" ∧ Sta Z Z.heap "com/example/consistent_answers/consistentanswers/ontology/Datatype" "ANY_URI" "Lcom/example/consistent_answers/consistentanswers/ontology/Datatype;" (.ref r18) ∧ Exa Z Z.heap r18 "com/example/consistent_answers/consistentanswers/ontology/Datatype" ∧ Fld Z Z.heap r0 "java/lang/Enum" "ordinal" "I" (.int (0 : Int32)) ∧ Fld Z Z.heap r3 "java/lang/Enum" "ordinal" "I" (.int (3 : Int32)) ∧ Fld Z Z.heap r0 "com/example/consistent_answers/consistentanswers/ontology/Datatype" "wider" "Lcom/example/consistent_answers/consistentanswers/ontology/Datatype;" .null ∧ Fld Z Z.heap r14 "java/lang/Enum" "ordinal" "I" (.int (14 : Int32)) ∧ Fld Z Z.heap r1 "java/lang/Enum" "ordinal" "I" (.int (1 : Int32)) ∧ Fld Z Z.heap r14 "com/example/consistent_answers/consistentanswers/ontology/Datatype" "wider" "Lcom/example/consistent_answers/consistentanswers/ontology/Datatype;" (.ref r13) ∧ Fld Z Z.heap r13 "java/lang/Enum" "ordinal" "I" (.int (13 : Int32)) ∧ Fld Z Z.heap r13 "com/example/consistent_answers/consistentanswers/ontology/Datatype" "wider" "Lcom/example/consistent_answers/consistentanswers/ontology/Datatype;" (.ref r0) ∧ Fld Z Z.heap r17 "java/lang/Enum" "ordinal" "I" (.int (17 : Int32)) ∧ Fld Z Z.heap r2 "java/lang/Enum" "ordinal" "I" (.int (2 : Int32)) ∧ Fld Z Z.heap r2 "com/example/consistent_answers/consistentanswers/ontology/Datatype" "wider" "Lcom/example/consistent_answers/consistentanswers/ontology/Datatype;" (.ref r1) ∧ Fld Z Z.heap r9 "java/lang/Enum" "ordinal" "I" (.int (9 : Int32)) ∧ Fld Z Z.heap r9 "com/example/consistent_answers/consistentanswers/ontology/Datatype" "wider" "Lcom/example/consistent_answers/consistentanswers/ontology/Datatype;" (.ref r8) ∧ Fld Z Z.heap r8 "java/lang/Enum" "ordinal" "I" (.int (8 : Int32)) ∧ Fld Z Z.heap r8 "com/example/consistent_answers/consistentanswers/ontology/Datatype" "wider" "Lcom/example/consistent_answers/consistentanswers/ontology/Datatype;" (.ref r0) ∧ Fld Z Z.heap r3 "com/example/consistent_answers/consistentanswers/ontology/Datatype" "wider" "Lcom/example/consistent_answers/consistentanswers/ontology/Datatype;" (.ref r2) ∧ Fld Z Z.heap r1 "com/example/consistent_answers/consistentanswers/ontology/Datatype" "wider" "Lcom/example/consistent_answers/consistentanswers/ontology/Datatype;" (.ref r0) ∧ Fld Z Z.heap r6 "java/lang/Enum" "ordinal" "I" (.int (6 : Int32)) ∧ Fld Z Z.heap r10 "java/lang/Enum" "ordinal" "I" (.int (10 : Int32)) ∧ Fld Z Z.heap r6 "com/example/consistent_answers/consistentanswers/ontology/Datatype" "wider" "Lcom/example/consistent_answers/consistentanswers/ontology/Datatype;" (.ref r5) ∧ Fld Z Z.heap r5 "java/lang/Enum" "ordinal" "I" (.int (5 : Int32)) ∧ Fld Z Z.heap r5 "com/example/consistent_answers/consistentanswers/ontology/Datatype" "wider" "Lcom/example/consistent_answers/consistentanswers/ontology/Datatype;" (.ref r4) ∧ Fld Z Z.heap r4 "java/lang/Enum" "ordinal" "I" (.int (4 : Int32)) ∧ Fld Z Z.heap r4 "com/example/consistent_answers/consistentanswers/ontology/Datatype" "wider" "Lcom/example/consistent_answers/consistentanswers/ontology/Datatype;" (.ref r3) ∧ Fld Z Z.heap r12 "java/lang/Enum" "ordinal" "I" (.int (12 : Int32)) ∧ Fld Z Z.heap r12 "com/example/consistent_answers/consistentanswers/ontology/Datatype" "wider" "Lcom/example/consistent_answers/consistentanswers/ontology/Datatype;" (.ref r11) ∧ Fld Z Z.heap r11 "java/lang/Enum" "ordinal" "I" (.int (11 : Int32)) ∧ Fld Z Z.heap r11 "com/example/consistent_answers/consistentanswers/ontology/Datatype" "wider" "Lcom/example/consistent_answers/consistentanswers/ontology/Datatype;" (.ref r10) ∧ Fld Z Z.heap r10 "com/example/consistent_answers/consistentanswers/ontology/Datatype" "wider" "Lcom/example/consistent_answers/consistentanswers/ontology/Datatype;" (.ref r9) ∧ Fld Z Z.heap r7 "java/lang/Enum" "ordinal" "I" (.int (7 : Int32)) ∧ Fld Z Z.heap r7 "com/example/consistent_answers/consistentanswers/ontology/Datatype" "wider" "Lcom/example/consistent_answers/consistentanswers/ontology/Datatype;" (.ref r6) ∧ Fld Z Z.heap r16 "java/lang/Enum" "ordinal" "I" (.int (16 : Int32)) ∧ Fld Z Z.heap r16 "com/example/consistent_answers/consistentanswers/ontology/Datatype" "wider" "Lcom/example/consistent_answers/consistentanswers/ontology/Datatype;" (.ref r0) ∧ Fld Z Z.heap r15 "java/lang/Enum" "ordinal" "I" (.int (15 : Int32)) ∧ Fld Z Z.heap r18 "java/lang/Enum" "ordinal" "I" (.int (18 : Int32)) ∧ Fld Z Z.heap r15 "com/example/consistent_answers/consistentanswers/ontology/Datatype" "wider" "Lcom/example/consistent_answers/consistentanswers/ontology/Datatype;" (.ref r0) ∧ Fld Z Z.heap r18 "com/example/consistent_answers/consistentanswers/ontology/Datatype" "wider" "Lcom/example/consistent_answers/consistentanswers/ontology/Datatype;" (.ref r0) ∧ Fld Z Z.heap r17 "com/example/consistent_answers/consistentanswers/ontology/Datatype" "wider" "Lcom/example/consistent_answers/consistentanswers/ontology/Datatype;" (.ref r0)
theorem pd_0 : parseMethodDescriptor "(Lcom/example/consistent_answers/consistentanswers/ontology/Datatype;)Z" = some ⟨[(.object "com/example/consistent_answers/consistentanswers/ontology/Datatype")], some .boolean⟩ := by decide +kernel
theorem pd_1 : parseMethodDescriptor "(I)I" = some ⟨[.int], some .int⟩ := by decide +kernel
def own_A (r0 r1 r2 r3 r4 r5 r6 r7 r8 r9 r10 r11 r12 r13 r14 r15 r16 r17 r18 : Addr) (k : Nat) : Addr := [r0, r1, r2, r3, r4, r5, r6, r7, r8, r9, r10, r11, r12, r13, r14, r15, r16, r17, r18].getD k 0
def own_wid (k : Nat) : Nat := [0, 0, 1, 2, 3, 4, 5, 6, 0, 8, 9, 10, 11, 0, 13, 0, 0, 0, 0].getD k 0
def own_H (Z : State) (A : Nat → Addr) : Prop := (∀ k, k < 19 → Exa Z Z.heap (A k) "com/example/consistent_answers/consistentanswers/ontology/Datatype") ∧ (∀ k, k < 19 → Fld Z Z.heap (A k) "java/lang/Enum" "ordinal" "I" (.int (Int32.ofNat k))) ∧ (∀ k, k < 19 → k ≠ 0 → Fld Z Z.heap (A k) "com/example/consistent_answers/consistentanswers/ontology/Datatype" "wider" "Lcom/example/consistent_answers/consistentanswers/ontology/Datatype;" (.ref (A (own_wid k)))) ∧ Fld Z Z.heap (A 0) "com/example/consistent_answers/consistentanswers/ontology/Datatype" "wider" "Lcom/example/consistent_answers/consistentanswers/ontology/Datatype;" .null
theorem own_all {Z : State} {r0 r1 r2 r3 r4 r5 r6 r7 r8 r9 r10 r11 r12 r13 r14 r15 r16 r17 r18 : Addr} (G : own_W Z r0 r1 r2 r3 r4 r5 r6 r7 r8 r9 r10 r11 r12 r13 r14 r15 r16 r17 r18) : own_H Z (own_A r0 r1 r2 r3 r4 r5 r6 r7 r8 r9 r10 r11 r12 r13 r14 r15 r16 r17 r18) := by
  obtain ⟨S_0, E_0, S_1, E_1, S_2, E_2, S_3, E_3, S_4, E_4, S_5, E_5, S_6, E_6, S_7, E_7, S_8, E_8, S_9, E_9, S_10, E_10, S_11, E_11, S_12, E_12, S_13, E_13, S_14, E_14, S_15, E_15, S_16, E_16, S_17, E_17, S_18, E_18, F_0_ordinal, F_3_ordinal, F_0_wider, F_14_ordinal, F_1_ordinal, F_14_wider, F_13_ordinal, F_13_wider, F_17_ordinal, F_2_ordinal, F_2_wider, F_9_ordinal, F_9_wider, F_8_ordinal, F_8_wider, F_3_wider, F_1_wider, F_6_ordinal, F_10_ordinal, F_6_wider, F_5_ordinal, F_5_wider, F_4_ordinal, F_4_wider, F_12_ordinal, F_12_wider, F_11_ordinal, F_11_wider, F_10_wider, F_7_ordinal, F_7_wider, F_16_ordinal, F_16_wider, F_15_ordinal, F_18_ordinal, F_15_wider, F_18_wider, F_17_wider⟩ := G
  refine ⟨fun k hk => ?_, fun k hk => ?_, fun k hk h0 => ?_, F_0_wider⟩
  · match k, hk with
    | 0, _ => exact E_0
    | 1, _ => exact E_1
    | 2, _ => exact E_2
    | 3, _ => exact E_3
    | 4, _ => exact E_4
    | 5, _ => exact E_5
    | 6, _ => exact E_6
    | 7, _ => exact E_7
    | 8, _ => exact E_8
    | 9, _ => exact E_9
    | 10, _ => exact E_10
    | 11, _ => exact E_11
    | 12, _ => exact E_12
    | 13, _ => exact E_13
    | 14, _ => exact E_14
    | 15, _ => exact E_15
    | 16, _ => exact E_16
    | 17, _ => exact E_17
    | 18, _ => exact E_18
    | k + 19, hk => exact absurd hk (by omega)
  · match k, hk with
    | 0, _ => exact F_0_ordinal
    | 1, _ => exact F_1_ordinal
    | 2, _ => exact F_2_ordinal
    | 3, _ => exact F_3_ordinal
    | 4, _ => exact F_4_ordinal
    | 5, _ => exact F_5_ordinal
    | 6, _ => exact F_6_ordinal
    | 7, _ => exact F_7_ordinal
    | 8, _ => exact F_8_ordinal
    | 9, _ => exact F_9_ordinal
    | 10, _ => exact F_10_ordinal
    | 11, _ => exact F_11_ordinal
    | 12, _ => exact F_12_ordinal
    | 13, _ => exact F_13_ordinal
    | 14, _ => exact F_14_ordinal
    | 15, _ => exact F_15_ordinal
    | 16, _ => exact F_16_ordinal
    | 17, _ => exact F_17_ordinal
    | 18, _ => exact F_18_ordinal
    | k + 19, hk => exact absurd hk (by omega)
  · match k, hk, h0 with
    | 0, _, h => exact absurd rfl h
    | 1, _, _ => exact F_1_wider
    | 2, _, _ => exact F_2_wider
    | 3, _, _ => exact F_3_wider
    | 4, _, _ => exact F_4_wider
    | 5, _, _ => exact F_5_wider
    | 6, _, _ => exact F_6_wider
    | 7, _, _ => exact F_7_wider
    | 8, _, _ => exact F_8_wider
    | 9, _, _ => exact F_9_wider
    | 10, _, _ => exact F_10_wider
    | 11, _, _ => exact F_11_wider
    | 12, _, _ => exact F_12_wider
    | 13, _, _ => exact F_13_wider
    | 14, _, _ => exact F_14_wider
    | 15, _, _ => exact F_15_wider
    | 16, _, _ => exact F_16_wider
    | 17, _, _ => exact F_17_wider
    | 18, _, _ => exact F_18_wider
    | k + 19, hk, _ => exact absurd hk (by omega)
def own_val : Nat → Nat → Nat → Int32
  | 0, _, _ => 0
  | f + 1, k, b => if k = b then 1 else if k = 0 then 0 else own_val f (own_wid k) b
def own_ch (p : Int32) : Int32 := if p = 0 then 0 else if 7 < p then (if 12 < p then (if 14 < p then p else 3) else 2) else 1
def own_dp (p : Int32) : Int32 := if p = 0 then 0 else if 7 < p then (if 12 < p then (if 14 < p then 1 else p - 12) else p - 7) else p
theorem own_master : ∀ a, a < 19 → ∀ b, b < 19 → own_val 19 a b = (if Int32.ofNat b = 0 then 1 else if own_ch (Int32.ofNat a) = own_ch (Int32.ofNat b) then (if own_ch (Int32.ofNat a) = 0 then 0 else if own_dp (Int32.ofNat a) < own_dp (Int32.ofNat b) then 0 else 1) else 0) := by decide +kernel
theorem own_wlt : ∀ k, k < 19 → k ≠ 0 → own_wid k < k := by decide +kernel
theorem own_inj : ∀ a, a < 19 → ∀ b, b < 19 → a ≠ b → Int32.ofNat a ≠ Int32.ofNat b := by decide +kernel
theorem own_neg : ∀ a, a < 19 → ¬ Int32.ofNat a < 0 ∧ Int32.ofNat a < (19 : Int32) := by decide +kernel
theorem own_tn : ∀ a, a < 19 → (Int32.ofNat a).toNatClampNeg = a := by decide +kernel
theorem own_idx (p : Int32) : ∃ a : Nat, a < 19 ∧ (p &&& (2147483647 : Int32)) % (19 : Int32) = Int32.ofNat a := by
  have e1 : (p &&& (2147483647 : Int32)).toInt = p.toInt % 2 ^ 31 := Jvm.Kit.i32_mask p 2147483647 (k := 31) (by decide) (by decide)
  have e2 : ((p &&& (2147483647 : Int32)) % (19 : Int32)).toInt = (p &&& (2147483647 : Int32)).toInt.tmod 19 := Int32.toInt_mod _ _
  rw [e1, Int.tmod_eq_emod_of_nonneg (by omega)] at e2
  generalize (p &&& (2147483647 : Int32)) % (19 : Int32) = x at *
  refine ⟨x.toInt.toNat, by omega, Int32.toInt_inj.mp ?_⟩
  have h : (Int32.ofNat x.toInt.toNat).toInt = (x.toInt.toNat : Int) := Int32.toInt_ofNat_of_lt (by omega)
  omega
theorem own_get {r0 r1 r2 r3 r4 r5 r6 r7 r8 r9 r10 r11 r12 r13 r14 r15 r16 r17 r18 : Addr} : ∀ a, a < 19 → ([(.ref r0), (.ref r1), (.ref r2), (.ref r3), (.ref r4), (.ref r5), (.ref r6), (.ref r7), (.ref r8), (.ref r9), (.ref r10), (.ref r11), (.ref r12), (.ref r13), (.ref r14), (.ref r15), (.ref r16), (.ref r17), (.ref r18)] : List Value).getD a .null = .ref (own_A r0 r1 r2 r3 r4 r5 r6 r7 r8 r9 r10 r11 r12 r13 r14 r15 r16 r17 r18 a) := by
  intro a ha
  match a, ha with
  | 0, _ => rfl
  | 1, _ => rfl
  | 2, _ => rfl
  | 3, _ => rfl
  | 4, _ => rfl
  | 5, _ => rfl
  | 6, _ => rfl
  | 7, _ => rfl
  | 8, _ => rfl
  | 9, _ => rfl
  | 10, _ => rfl
  | 11, _ => rfl
  | 12, _ => rfl
  | 13, _ => rfl
  | 14, _ => rfl
  | 15, _ => rfl
  | 16, _ => rfl
  | 17, _ => rfl
  | 18, _ => rfl
  | k + 19, hk => exact absurd hk (by omega)
theorem d2_0 : decode method_2_code 0 = .ok (.iload_n 0, 1) := by decide +kernel
theorem d2_1 : decode method_2_code 1 = .ok (.ifCond .ne 5, 3) := by decide +kernel
theorem d2_4 : decode method_2_code 4 = .ok (.iconst 0, 1) := by decide +kernel
theorem d2_5 : decode method_2_code 5 = .ok (.ireturn, 1) := by decide +kernel
theorem d2_6 : decode method_2_code 6 = .ok (.iload_n 0, 1) := by decide +kernel
theorem d2_7 : decode method_2_code 7 = .ok (.bipush 7, 2) := by decide +kernel
theorem d2_9 : decode method_2_code 9 = .ok (.if_icmp .gt 5, 3) := by decide +kernel
theorem d2_12 : decode method_2_code 12 = .ok (.iconst 1, 1) := by decide +kernel
theorem d2_13 : decode method_2_code 13 = .ok (.ireturn, 1) := by decide +kernel
theorem d2_14 : decode method_2_code 14 = .ok (.iload_n 0, 1) := by decide +kernel
theorem d2_15 : decode method_2_code 15 = .ok (.bipush 12, 2) := by decide +kernel
theorem d2_17 : decode method_2_code 17 = .ok (.if_icmp .gt 5, 3) := by decide +kernel
theorem d2_20 : decode method_2_code 20 = .ok (.iconst 2, 1) := by decide +kernel
theorem d2_21 : decode method_2_code 21 = .ok (.ireturn, 1) := by decide +kernel
theorem d2_22 : decode method_2_code 22 = .ok (.iload_n 0, 1) := by decide +kernel
theorem d2_23 : decode method_2_code 23 = .ok (.bipush 14, 2) := by decide +kernel
theorem d2_25 : decode method_2_code 25 = .ok (.if_icmp .gt 5, 3) := by decide +kernel
theorem d2_28 : decode method_2_code 28 = .ok (.iconst 3, 1) := by decide +kernel
theorem d2_29 : decode method_2_code 29 = .ok (.ireturn, 1) := by decide +kernel
theorem d2_30 : decode method_2_code 30 = .ok (.iload_n 0, 1) := by decide +kernel
theorem d2_31 : decode method_2_code 31 = .ok (.ireturn, 1) := by decide +kernel
theorem pn_0 : plainName "com/example/consistent_answers/consistentanswers/ontology/DatatypeIsWithinPinLaw" = true := by first | (simp [plainName, overriddenIn]; done) | decide +kernel
theorem ef_rm_chain (m : MethodId) (x0 : Int32) : entryFrame m #[(.int x0)] 1 = mkF m 0 #[.val (.int x0)] [] := by first | (simp [entryFrame, mkF, argsToLocals, Value.category]; done) | rfl
def Q_rm_chain (Z : State) (p1 : Int32) (w : Int32) (h0 : Heap) (n0 : Nat) (v : Option Value) (h : Heap) (L : List Loc) : Prop := v = some (.int w) ∧ Fr n0 L ∧ h = h0
set_option maxRecDepth 65536 in
set_option maxHeartbeats 40000000 in
theorem rm_chain (l : Launch) (Z : State) (a0 : Array Value) (hw : ∀ d ∈ tables_1, d.before a0 Z = true) (ws : List Jvm.Cond) (p1 : Int32) (w : Int32) (h0 : Heap) (n0 : Nat) (O0 : Old Z n0 h0) (hv : own_ch p1 = w) :
    MetFree l (⟨"com/example/consistent_answers/consistentanswers/ontology/DatatypeIsWithinPinLaw", "chain", "(I)I"⟩ : MethodName) (head1 (Jvm.Cond.code (⟨"com/example/consistent_answers/consistentanswers/ontology/DatatypeIsWithinPinLaw", "chain", "(I)I"⟩ : MethodName) method_2_code 1 (some .int) :: ws) ({ frames := 0, cells := 0, slots := 0, locals := 0 } : Room)) (fun a U => a = #[(.int p1)] ∧ Z.Warmed39 U.vm ∧ U.heap = h0) (fun _ _ _ _ _ => True) (fun _ U o U' => ∃ v L, o = .returned v ∧ Q_rm_chain Z p1 w h0 n0 v U'.heap L ∧ FrameEnd U o U' L ({ frames := 0, cells := 0, slots := 0, locals := 0 } : Room).cells ({ frames := 0, cells := 0, slots := 0, locals := 0 } : Room).slots) := by
  refine MetFree.of_bodySF (plainFor_of_name pn_0) hisR ?_
  intro p e s m args below meth c s₁ Bd hml0 hP hK
  obtain ⟨rfl, hZ, hh⟩ := hP
  have hx := Bd.exec
  have hby := Bd.bytes
  have hml : c.maxLocals = 1 := hml0
  have hown : s.vm.findClass "com/example/consistent_answers/consistentanswers/ontology/DatatypeIsWithinPinLaw" = some m.cls := findClass_of_methodNamed Bd.named
  have hnm := (name_of_methodNamed Bd.named Bd.method).1
  have hlk := BodyLoose.notSynchronized Bd
  have X0 : Stand p l e ({ frames := 0, cells := 0, slots := 0, locals := 0 } : Room) s m #[(.int p1)] below meth c s₁ [] 0 0 := Stand.of_body Bd
  have e0 : s₁.heap = h0 := by rw [← hh, Bd.state]; rfl
  have N0 := Fr.nil n0
  show own_Ends p e below s (Q_rm_chain Z p1 w h0 n0) ({ frames := 0, cells := 0, slots := 0, locals := 0 } : Room).cells ({ frames := 0, cells := 0, slots := 0, locals := 0 } : Room).slots s₁ (entryFrame m #[(.int p1)] 1)
  rw [ef_rm_chain m p1]
  show own_Ends _ _ _ _ _ _ _ s₁ (mkF m 0 #[.val (.int p1)] [])
  refine own_st (fun _ kq => XS.iloadN X0.here hx rfl (hb hby d2_0) rfl kq) ?_
  show own_Ends _ _ _ _ _ _ _ s₁ (mkF m 1 #[.val (.int p1)] [(.int p1)])
  by_cases hc1 : p1 = (0 : Int32)
  · skip
    refine own_st (fun _ kq => XS.ifNo X0.here hx rfl (hb hby d2_1) rfl ((if0 _ _).trans (teq hc1).2) kq) ?_
    show own_Ends _ _ _ _ _ _ _ s₁ (mkF m 4 #[.val (.int p1)] [])
    refine own_st (fun _ kq => XS.iconst X0.here hx rfl (hb hby d2_4) kq) ?_
    show own_Ends _ _ _ _ _ _ _ s₁ (mkF m 5 #[.val (.int p1)] [(.int (0 : Int32))])
    refine own_retI X0 hx Bd.returns (hb hby d2_5) hlk (by decide) (by decide) ?_
    show Q_rm_chain Z p1 w h0 n0 _ s₁.heap _
    rw [e0]
    exact ⟨by rw [← hv]; simp [own_ch, hc1], N0, rfl⟩
  · skip
    refine own_st (fun _ kq => XS.ifYes X0.here hx rfl (pc0 := 1) (pc' := 6) rfl (hb hby d2_1) rfl ((if0 _ _).trans (feq hc1).2) (by decide) (by decide) kq) ?_
    show own_Ends _ _ _ _ _ _ _ s₁ (mkF m 6 #[.val (.int p1)] [])
    refine own_st (fun _ kq => XS.iloadN X0.here hx rfl (hb hby d2_6) rfl kq) ?_
    show own_Ends _ _ _ _ _ _ _ s₁ (mkF m 7 #[.val (.int p1)] [(.int p1)])
    refine own_st (fun _ kq => XS.bipush X0.here hx rfl (hb hby d2_7) kq) ?_
    show own_Ends _ _ _ _ _ _ _ s₁ (mkF m 9 #[.val (.int p1)] [(.int (7 : Int32)), (.int p1)])
    by_cases hc9 : (7 : Int32) < p1
    · skip
      refine own_st (fun _ kq => XS.icmpYes X0.here hx rfl (pc0 := 9) (pc' := 14) rfl (hb hby d2_9) rfl (tlt hc9).2.2.1 (by decide) (by decide) kq) ?_
      show own_Ends _ _ _ _ _ _ _ s₁ (mkF m 14 #[.val (.int p1)] [])
      refine own_st (fun _ kq => XS.iloadN X0.here hx rfl (hb hby d2_14) rfl kq) ?_
      show own_Ends _ _ _ _ _ _ _ s₁ (mkF m 15 #[.val (.int p1)] [(.int p1)])
      refine own_st (fun _ kq => XS.bipush X0.here hx rfl (hb hby d2_15) kq) ?_
      show own_Ends _ _ _ _ _ _ _ s₁ (mkF m 17 #[.val (.int p1)] [(.int (12 : Int32)), (.int p1)])
      by_cases hc17 : (12 : Int32) < p1
      · skip
        refine own_st (fun _ kq => XS.icmpYes X0.here hx rfl (pc0 := 17) (pc' := 22) rfl (hb hby d2_17) rfl (tlt hc17).2.2.1 (by decide) (by decide) kq) ?_
        show own_Ends _ _ _ _ _ _ _ s₁ (mkF m 22 #[.val (.int p1)] [])
        refine own_st (fun _ kq => XS.iloadN X0.here hx rfl (hb hby d2_22) rfl kq) ?_
        show own_Ends _ _ _ _ _ _ _ s₁ (mkF m 23 #[.val (.int p1)] [(.int p1)])
        refine own_st (fun _ kq => XS.bipush X0.here hx rfl (hb hby d2_23) kq) ?_
        show own_Ends _ _ _ _ _ _ _ s₁ (mkF m 25 #[.val (.int p1)] [(.int (14 : Int32)), (.int p1)])
        by_cases hc25 : (14 : Int32) < p1
        · skip
          refine own_st (fun _ kq => XS.icmpYes X0.here hx rfl (pc0 := 25) (pc' := 30) rfl (hb hby d2_25) rfl (tlt hc25).2.2.1 (by decide) (by decide) kq) ?_
          show own_Ends _ _ _ _ _ _ _ s₁ (mkF m 30 #[.val (.int p1)] [])
          refine own_st (fun _ kq => XS.iloadN X0.here hx rfl (hb hby d2_30) rfl kq) ?_
          show own_Ends _ _ _ _ _ _ _ s₁ (mkF m 31 #[.val (.int p1)] [(.int p1)])
          refine own_retI X0 hx Bd.returns (hb hby d2_31) hlk (by decide) (by decide) ?_
          show Q_rm_chain Z p1 w h0 n0 _ s₁.heap _
          rw [e0]
          exact ⟨by rw [← hv]; simp [own_ch, hc1, hc9, hc17, hc25], N0, rfl⟩
        · skip
          refine own_st (fun _ kq => XS.icmpNo X0.here hx rfl (hb hby d2_25) rfl (flt hc25).2.2.1 kq) ?_
          show own_Ends _ _ _ _ _ _ _ s₁ (mkF m 28 #[.val (.int p1)] [])
          refine own_st (fun _ kq => XS.iconst X0.here hx rfl (hb hby d2_28) kq) ?_
          show own_Ends _ _ _ _ _ _ _ s₁ (mkF m 29 #[.val (.int p1)] [(.int (3 : Int32))])
          refine own_retI X0 hx Bd.returns (hb hby d2_29) hlk (by decide) (by decide) ?_
          show Q_rm_chain Z p1 w h0 n0 _ s₁.heap _
          rw [e0]
          exact ⟨by rw [← hv]; simp [own_ch, hc1, hc9, hc17, hc25], N0, rfl⟩
      · skip
        refine own_st (fun _ kq => XS.icmpNo X0.here hx rfl (hb hby d2_17) rfl (flt hc17).2.2.1 kq) ?_
        show own_Ends _ _ _ _ _ _ _ s₁ (mkF m 20 #[.val (.int p1)] [])
        refine own_st (fun _ kq => XS.iconst X0.here hx rfl (hb hby d2_20) kq) ?_
        show own_Ends _ _ _ _ _ _ _ s₁ (mkF m 21 #[.val (.int p1)] [(.int (2 : Int32))])
        refine own_retI X0 hx Bd.returns (hb hby d2_21) hlk (by decide) (by decide) ?_
        show Q_rm_chain Z p1 w h0 n0 _ s₁.heap _
        rw [e0]
        exact ⟨by rw [← hv]; simp [own_ch, hc1, hc9, hc17], N0, rfl⟩
    · skip
      refine own_st (fun _ kq => XS.icmpNo X0.here hx rfl (hb hby d2_9) rfl (flt hc9).2.2.1 kq) ?_
      show own_Ends _ _ _ _ _ _ _ s₁ (mkF m 12 #[.val (.int p1)] [])
      refine own_st (fun _ kq => XS.iconst X0.here hx rfl (hb hby d2_12) kq) ?_
      show own_Ends _ _ _ _ _ _ _ s₁ (mkF m 13 #[.val (.int p1)] [(.int (1 : Int32))])
      refine own_retI X0 hx Bd.returns (hb hby d2_13) hlk (by decide) (by decide) ?_
      show Q_rm_chain Z p1 w h0 n0 _ s₁.heap _
      rw [e0]
      exact ⟨by rw [← hv]; simp [own_ch, hc1, hc9], N0, rfl⟩
theorem d3_0 : decode method_3_code 0 = .ok (.iload_n 0, 1) := by decide +kernel
theorem d3_1 : decode method_3_code 1 = .ok (.ifCond .ne 5, 3) := by decide +kernel
theorem d3_4 : decode method_3_code 4 = .ok (.iconst 0, 1) := by decide +kernel
theorem d3_5 : decode method_3_code 5 = .ok (.ireturn, 1) := by decide +kernel
theorem d3_6 : decode method_3_code 6 = .ok (.iload_n 0, 1) := by decide +kernel
theorem d3_7 : decode method_3_code 7 = .ok (.bipush 7, 2) := by decide +kernel
theorem d3_9 : decode method_3_code 9 = .ok (.if_icmp .gt 5, 3) := by decide +kernel
theorem d3_12 : decode method_3_code 12 = .ok (.iload_n 0, 1) := by decide +kernel
theorem d3_13 : decode method_3_code 13 = .ok (.ireturn, 1) := by decide +kernel
theorem d3_14 : decode method_3_code 14 = .ok (.iload_n 0, 1) := by decide +kernel
theorem d3_15 : decode method_3_code 15 = .ok (.bipush 12, 2) := by decide +kernel
theorem d3_17 : decode method_3_code 17 = .ok (.if_icmp .gt 8, 3) := by decide +kernel
theorem d3_20 : decode method_3_code 20 = .ok (.iload_n 0, 1) := by decide +kernel
theorem d3_21 : decode method_3_code 21 = .ok (.bipush 7, 2) := by decide +kernel
theorem d3_23 : decode method_3_code 23 = .ok (.isub, 1) := by decide +kernel
theorem d3_24 : decode method_3_code 24 = .ok (.ireturn, 1) := by decide +kernel
theorem d3_25 : decode method_3_code 25 = .ok (.iload_n 0, 1) := by decide +kernel
theorem d3_26 : decode method_3_code 26 = .ok (.bipush 14, 2) := by decide +kernel
theorem d3_28 : decode method_3_code 28 = .ok (.if_icmp .gt 8, 3) := by decide +kernel
theorem d3_31 : decode method_3_code 31 = .ok (.iload_n 0, 1) := by decide +kernel
theorem d3_32 : decode method_3_code 32 = .ok (.bipush 12, 2) := by decide +kernel
theorem d3_34 : decode method_3_code 34 = .ok (.isub, 1) := by decide +kernel
theorem d3_35 : decode method_3_code 35 = .ok (.ireturn, 1) := by decide +kernel
theorem d3_36 : decode method_3_code 36 = .ok (.iconst 1, 1) := by decide +kernel
theorem d3_37 : decode method_3_code 37 = .ok (.ireturn, 1) := by decide +kernel
theorem ef_rm_depth (m : MethodId) (x0 : Int32) : entryFrame m #[(.int x0)] 1 = mkF m 0 #[.val (.int x0)] [] := by first | (simp [entryFrame, mkF, argsToLocals, Value.category]; done) | rfl
def Q_rm_depth (Z : State) (p1 : Int32) (w : Int32) (h0 : Heap) (n0 : Nat) (v : Option Value) (h : Heap) (L : List Loc) : Prop := v = some (.int w) ∧ Fr n0 L ∧ h = h0
set_option maxRecDepth 65536 in
set_option maxHeartbeats 40000000 in
theorem rm_depth (l : Launch) (Z : State) (a0 : Array Value) (hw : ∀ d ∈ tables_1, d.before a0 Z = true) (ws : List Jvm.Cond) (p1 : Int32) (w : Int32) (h0 : Heap) (n0 : Nat) (O0 : Old Z n0 h0) (hv : own_dp p1 = w) :
    MetFree l (⟨"com/example/consistent_answers/consistentanswers/ontology/DatatypeIsWithinPinLaw", "depth", "(I)I"⟩ : MethodName) (head1 (Jvm.Cond.code (⟨"com/example/consistent_answers/consistentanswers/ontology/DatatypeIsWithinPinLaw", "depth", "(I)I"⟩ : MethodName) method_3_code 1 (some .int) :: ws) ({ frames := 0, cells := 0, slots := 0, locals := 0 } : Room)) (fun a U => a = #[(.int p1)] ∧ Z.Warmed39 U.vm ∧ U.heap = h0) (fun _ _ _ _ _ => True) (fun _ U o U' => ∃ v L, o = .returned v ∧ Q_rm_depth Z p1 w h0 n0 v U'.heap L ∧ FrameEnd U o U' L ({ frames := 0, cells := 0, slots := 0, locals := 0 } : Room).cells ({ frames := 0, cells := 0, slots := 0, locals := 0 } : Room).slots) := by
  refine MetFree.of_bodySF (plainFor_of_name pn_0) hisR ?_
  intro p e s m args below meth c s₁ Bd hml0 hP hK
  obtain ⟨rfl, hZ, hh⟩ := hP
  have hx := Bd.exec
  have hby := Bd.bytes
  have hml : c.maxLocals = 1 := hml0
  have hown : s.vm.findClass "com/example/consistent_answers/consistentanswers/ontology/DatatypeIsWithinPinLaw" = some m.cls := findClass_of_methodNamed Bd.named
  have hnm := (name_of_methodNamed Bd.named Bd.method).1
  have hlk := BodyLoose.notSynchronized Bd
  have X0 : Stand p l e ({ frames := 0, cells := 0, slots := 0, locals := 0 } : Room) s m #[(.int p1)] below meth c s₁ [] 0 0 := Stand.of_body Bd
  have e0 : s₁.heap = h0 := by rw [← hh, Bd.state]; rfl
  have N0 := Fr.nil n0
  show own_Ends p e below s (Q_rm_depth Z p1 w h0 n0) ({ frames := 0, cells := 0, slots := 0, locals := 0 } : Room).cells ({ frames := 0, cells := 0, slots := 0, locals := 0 } : Room).slots s₁ (entryFrame m #[(.int p1)] 1)
  rw [ef_rm_depth m p1]
  show own_Ends _ _ _ _ _ _ _ s₁ (mkF m 0 #[.val (.int p1)] [])
  refine own_st (fun _ kq => XS.iloadN X0.here hx rfl (hb hby d3_0) rfl kq) ?_
  show own_Ends _ _ _ _ _ _ _ s₁ (mkF m 1 #[.val (.int p1)] [(.int p1)])
  by_cases hc1 : p1 = (0 : Int32)
  · skip
    refine own_st (fun _ kq => XS.ifNo X0.here hx rfl (hb hby d3_1) rfl ((if0 _ _).trans (teq hc1).2) kq) ?_
    show own_Ends _ _ _ _ _ _ _ s₁ (mkF m 4 #[.val (.int p1)] [])
    refine own_st (fun _ kq => XS.iconst X0.here hx rfl (hb hby d3_4) kq) ?_
    show own_Ends _ _ _ _ _ _ _ s₁ (mkF m 5 #[.val (.int p1)] [(.int (0 : Int32))])
    refine own_retI X0 hx Bd.returns (hb hby d3_5) hlk (by decide) (by decide) ?_
    show Q_rm_depth Z p1 w h0 n0 _ s₁.heap _
    rw [e0]
    exact ⟨by rw [← hv]; simp [own_dp, hc1], N0, rfl⟩
  · skip
    refine own_st (fun _ kq => XS.ifYes X0.here hx rfl (pc0 := 1) (pc' := 6) rfl (hb hby d3_1) rfl ((if0 _ _).trans (feq hc1).2) (by decide) (by decide) kq) ?_
    show own_Ends _ _ _ _ _ _ _ s₁ (mkF m 6 #[.val (.int p1)] [])
    refine own_st (fun _ kq => XS.iloadN X0.here hx rfl (hb hby d3_6) rfl kq) ?_
    show own_Ends _ _ _ _ _ _ _ s₁ (mkF m 7 #[.val (.int p1)] [(.int p1)])
    refine own_st (fun _ kq => XS.bipush X0.here hx rfl (hb hby d3_7) kq) ?_
    show own_Ends _ _ _ _ _ _ _ s₁ (mkF m 9 #[.val (.int p1)] [(.int (7 : Int32)), (.int p1)])
    by_cases hc9 : (7 : Int32) < p1
    · skip
      refine own_st (fun _ kq => XS.icmpYes X0.here hx rfl (pc0 := 9) (pc' := 14) rfl (hb hby d3_9) rfl (tlt hc9).2.2.1 (by decide) (by decide) kq) ?_
      show own_Ends _ _ _ _ _ _ _ s₁ (mkF m 14 #[.val (.int p1)] [])
      refine own_st (fun _ kq => XS.iloadN X0.here hx rfl (hb hby d3_14) rfl kq) ?_
      show own_Ends _ _ _ _ _ _ _ s₁ (mkF m 15 #[.val (.int p1)] [(.int p1)])
      refine own_st (fun _ kq => XS.bipush X0.here hx rfl (hb hby d3_15) kq) ?_
      show own_Ends _ _ _ _ _ _ _ s₁ (mkF m 17 #[.val (.int p1)] [(.int (12 : Int32)), (.int p1)])
      by_cases hc17 : (12 : Int32) < p1
      · skip
        refine own_st (fun _ kq => XS.icmpYes X0.here hx rfl (pc0 := 17) (pc' := 25) rfl (hb hby d3_17) rfl (tlt hc17).2.2.1 (by decide) (by decide) kq) ?_
        show own_Ends _ _ _ _ _ _ _ s₁ (mkF m 25 #[.val (.int p1)] [])
        refine own_st (fun _ kq => XS.iloadN X0.here hx rfl (hb hby d3_25) rfl kq) ?_
        show own_Ends _ _ _ _ _ _ _ s₁ (mkF m 26 #[.val (.int p1)] [(.int p1)])
        refine own_st (fun _ kq => XS.bipush X0.here hx rfl (hb hby d3_26) kq) ?_
        show own_Ends _ _ _ _ _ _ _ s₁ (mkF m 28 #[.val (.int p1)] [(.int (14 : Int32)), (.int p1)])
        by_cases hc28 : (14 : Int32) < p1
        · skip
          refine own_st (fun _ kq => XS.icmpYes X0.here hx rfl (pc0 := 28) (pc' := 36) rfl (hb hby d3_28) rfl (tlt hc28).2.2.1 (by decide) (by decide) kq) ?_
          show own_Ends _ _ _ _ _ _ _ s₁ (mkF m 36 #[.val (.int p1)] [])
          refine own_st (fun _ kq => XS.iconst X0.here hx rfl (hb hby d3_36) kq) ?_
          show own_Ends _ _ _ _ _ _ _ s₁ (mkF m 37 #[.val (.int p1)] [(.int (1 : Int32))])
          refine own_retI X0 hx Bd.returns (hb hby d3_37) hlk (by decide) (by decide) ?_
          show Q_rm_depth Z p1 w h0 n0 _ s₁.heap _
          rw [e0]
          exact ⟨by rw [← hv]; simp [own_dp, hc1, hc9, hc17, hc28], N0, rfl⟩
        · skip
          refine own_st (fun _ kq => XS.icmpNo X0.here hx rfl (hb hby d3_28) rfl (flt hc28).2.2.1 kq) ?_
          show own_Ends _ _ _ _ _ _ _ s₁ (mkF m 31 #[.val (.int p1)] [])
          refine own_st (fun _ kq => XS.iloadN X0.here hx rfl (hb hby d3_31) rfl kq) ?_
          show own_Ends _ _ _ _ _ _ _ s₁ (mkF m 32 #[.val (.int p1)] [(.int p1)])
          refine own_st (fun _ kq => XS.bipush X0.here hx rfl (hb hby d3_32) kq) ?_
          show own_Ends _ _ _ _ _ _ _ s₁ (mkF m 34 #[.val (.int p1)] [(.int (12 : Int32)), (.int p1)])
          refine own_st (fun _ kq => XS.isub X0.here hx rfl (hb hby d3_34) rfl kq) ?_
          show own_Ends _ _ _ _ _ _ _ s₁ (mkF m 35 #[.val (.int p1)] [(.int (p1 - (12 : Int32)))])
          refine own_retI X0 hx Bd.returns (hb hby d3_35) hlk (by decide) (by decide) ?_
          show Q_rm_depth Z p1 w h0 n0 _ s₁.heap _
          rw [e0]
          exact ⟨by rw [← hv]; simp [own_dp, hc1, hc9, hc17, hc28], N0, rfl⟩
      · skip
        refine own_st (fun _ kq => XS.icmpNo X0.here hx rfl (hb hby d3_17) rfl (flt hc17).2.2.1 kq) ?_
        show own_Ends _ _ _ _ _ _ _ s₁ (mkF m 20 #[.val (.int p1)] [])
        refine own_st (fun _ kq => XS.iloadN X0.here hx rfl (hb hby d3_20) rfl kq) ?_
        show own_Ends _ _ _ _ _ _ _ s₁ (mkF m 21 #[.val (.int p1)] [(.int p1)])
        refine own_st (fun _ kq => XS.bipush X0.here hx rfl (hb hby d3_21) kq) ?_
        show own_Ends _ _ _ _ _ _ _ s₁ (mkF m 23 #[.val (.int p1)] [(.int (7 : Int32)), (.int p1)])
        refine own_st (fun _ kq => XS.isub X0.here hx rfl (hb hby d3_23) rfl kq) ?_
        show own_Ends _ _ _ _ _ _ _ s₁ (mkF m 24 #[.val (.int p1)] [(.int (p1 - (7 : Int32)))])
        refine own_retI X0 hx Bd.returns (hb hby d3_24) hlk (by decide) (by decide) ?_
        show Q_rm_depth Z p1 w h0 n0 _ s₁.heap _
        rw [e0]
        exact ⟨by rw [← hv]; simp [own_dp, hc1, hc9, hc17], N0, rfl⟩
    · skip
      refine own_st (fun _ kq => XS.icmpNo X0.here hx rfl (hb hby d3_9) rfl (flt hc9).2.2.1 kq) ?_
      show own_Ends _ _ _ _ _ _ _ s₁ (mkF m 12 #[.val (.int p1)] [])
      refine own_st (fun _ kq => XS.iloadN X0.here hx rfl (hb hby d3_12) rfl kq) ?_
      show own_Ends _ _ _ _ _ _ _ s₁ (mkF m 13 #[.val (.int p1)] [(.int p1)])
      refine own_retI X0 hx Bd.returns (hb hby d3_13) hlk (by decide) (by decide) ?_
      show Q_rm_depth Z p1 w h0 n0 _ s₁.heap _
      rw [e0]
      exact ⟨by rw [← hv]; simp [own_dp, hc1, hc9], N0, rfl⟩
theorem d1_0 : decode prog_8_method_6_code 0 = .ok (.aload_n 0, 1) := by decide +kernel
theorem d1_1 : decode prog_8_method_6_code 1 = .ok (.astore_n 2, 1) := by decide +kernel
theorem d1_2 : decode prog_8_method_6_code 2 = .ok (.aload_n 2, 1) := by decide +kernel
theorem d1_3 : decode prog_8_method_6_code 3 = .ok (.ifnull 18, 3) := by decide +kernel
theorem d1_6 : decode prog_8_method_6_code 6 = .ok (.aload_n 2, 1) := by decide +kernel
theorem d1_7 : decode prog_8_method_6_code 7 = .ok (.aload_n 1, 1) := by decide +kernel
theorem d1_8 : decode prog_8_method_6_code 8 = .ok (.if_acmp .ne 5, 3) := by decide +kernel
theorem d1_11 : decode prog_8_method_6_code 11 = .ok (.iconst 1, 1) := by decide +kernel
theorem d1_12 : decode prog_8_method_6_code 12 = .ok (.ireturn, 1) := by decide +kernel
theorem d1_13 : decode prog_8_method_6_code 13 = .ok (.aload_n 2, 1) := by decide +kernel
theorem d1_14 : decode prog_8_method_6_code 14 = .ok (.getfield 88, 3) := by decide +kernel
theorem d1_17 : decode prog_8_method_6_code 17 = .ok (.astore_n 2, 1) := by decide +kernel
theorem d1_18 : decode prog_8_method_6_code 18 = .ok (.goto (-16), 3) := by decide +kernel
theorem d1_21 : decode prog_8_method_6_code 21 = .ok (.iconst 0, 1) := by decide +kernel
theorem d1_22 : decode prog_8_method_6_code 22 = .ok (.ireturn, 1) := by decide +kernel
set_option maxRecDepth 65536 in
set_option maxHeartbeats 40000000 in
theorem own_loop {p : Program} {l : Launch} {e : Env} {R : Room} {s : State} {m : MethodId} {args : Array Value} {below : List Frame} {meth : Method} {c : Code} {kc ks : Nat} {Q : Option Value → Heap → List Loc → Prop} {Z : State} {a0 : Array Value} {h0 : Heap} {n0 : Nat} {A : Nat → Addr} {a1 : Addr} {b : Nat}
    (hx : p.tables.exec = Jvm.exec) (hZ : Z.Warmed39 s.vm) (hw : ∀ d ∈ tables_1, d.before a0 Z = true) (hby : c.code = prog_8_method_6_code) (hown : s.vm.findClass "com/example/consistent_answers/consistentanswers/ontology/Datatype" = some m.cls) (hlk : meth.locks = false) (hret : meth.sig.returnType = some .boolean) (O0 : Old Z n0 h0) (HG : own_H Z A) (hb' : b < 19) :
    ∀ f k, k < f → k < 19 → ∀ T, Stand p l e R s m args below meth c T [] 0 0 → T.heap = h0 → Q (some (.int (own_val f k b))) h0 [] → own_Ends p e below s Q kc ks T (mkF m 2 #[.val (.ref a1), .val (.ref (A b)), .val (.ref (A k))] []) := by
  intro f
  induction f with
  | zero => intro k hk; exact absurd hk (Nat.not_lt_zero k)
  | succ f ih =>
    intro k hkf hk T X0 e0 hQ
    obtain ⟨HE, HO, HWd, H0⟩ := HG
    show own_Ends _ _ _ _ _ _ _ T (mkF m 2 #[.val (.ref a1), .val (.ref (A b)), .val (.ref (A k))] [])
    refine own_st (fun _ kq => XS.aloadN X0.here hx rfl (hb hby d1_2) rfl rfl kq) ?_
    show own_Ends _ _ _ _ _ _ _ T (mkF m 3 #[.val (.ref a1), .val (.ref (A b)), .val (.ref (A k))] [(.ref (A k))])
    refine own_st (fun _ kq => XS.ifnullNo X0.here hx rfl (hb hby d1_3) rfl kq) ?_
    show own_Ends _ _ _ _ _ _ _ T (mkF m 6 #[.val (.ref a1), .val (.ref (A b)), .val (.ref (A k))] [])
    refine own_st (fun _ kq => XS.aloadN X0.here hx rfl (hb hby d1_6) rfl rfl kq) ?_
    show own_Ends _ _ _ _ _ _ _ T (mkF m 7 #[.val (.ref a1), .val (.ref (A b)), .val (.ref (A k))] [(.ref (A k))])
    refine own_st (fun _ kq => XS.aloadN X0.here hx rfl (hb hby d1_7) rfl rfl kq) ?_
    show own_Ends _ _ _ _ _ _ _ T (mkF m 8 #[.val (.ref a1), .val (.ref (A b)), .val (.ref (A k))] [(.ref (A b)), (.ref (A k))])
    by_cases hkb : k = b
    · skip
      refine own_st (fun _ kq => Jvm.RoadKit.acmp (g := (mkF m 8 #[.val (.ref a1), .val (.ref (A b)), .val (.ref (A k))] [(.ref (A b)), (.ref (A k))])) X0 hx rfl rfl rfl (pc0 := 8) (pc' := 11) (same := true) rfl (hb hby d1_8) rfl (decide_eq_true (congrArg (fun z => Value.ref (A z)) hkb)) (by decide) (by decide) kq) ?_
      show own_Ends _ _ _ _ _ _ _ T (mkF m 11 #[.val (.ref a1), .val (.ref (A b)), .val (.ref (A k))] [])
      refine own_st (fun _ kq => XS.iconst X0.here hx rfl (hb hby d1_11) kq) ?_
      show own_Ends _ _ _ _ _ _ _ T (mkF m 12 #[.val (.ref a1), .val (.ref (A b)), .val (.ref (A k))] [(.int (1 : Int32))])
      refine own_retN X0 hx (t := .boolean) hret (by simp) (hb hby d1_12) hlk (Nat.zero_le _) (Nat.zero_le _) (w := (1 : Int32)) (by decide) ?_
      rw [e0]
      have ev : own_val (f + 1) k b = 1 := by show (if k = b then (1 : Int32) else if k = 0 then 0 else own_val f (own_wid k) b) = _; rw [if_pos hkb]
      rw [ev] at hQ
      exact hQ
    · have hne : ¬ (A k) = (A b) := (HO k hk).ne (HO b hb') (fun q => own_inj k hk b hb' hkb (Value.int.inj q))
      refine own_st (fun _ kq => Jvm.RoadKit.acmp (g := (mkF m 8 #[.val (.ref a1), .val (.ref (A b)), .val (.ref (A k))] [(.ref (A b)), (.ref (A k))])) X0 hx rfl rfl rfl (pc0 := 8) (pc' := 13) (same := false) rfl (hb hby d1_8) rfl (decide_eq_false fun q => hne (Value.ref.inj q)) (by decide) (by decide) kq) ?_
      show own_Ends _ _ _ _ _ _ _ T (mkF m 13 #[.val (.ref a1), .val (.ref (A b)), .val (.ref (A k))] [])
      refine own_st (fun _ kq => XS.aloadN X0.here hx rfl (hb hby d1_13) rfl rfl kq) ?_
      show own_Ends _ _ _ _ _ _ _ T (mkF m 14 #[.val (.ref a1), .val (.ref (A b)), .val (.ref (A k))] [(.ref (A k))])
      by_cases hk0 : k = 0
      · have H0k : Fld Z Z.heap (A k) "com/example/consistent_answers/consistentanswers/ontology/Datatype" "wider" "Lcom/example/consistent_answers/consistentanswers/ontology/Datatype;" .null := by rw [hk0]; exact H0
        show own_Ends _ _ _ _ _ _ _ T (mkF m 14 #[.val (.ref a1), .val (.ref (A b)), .val (.ref (A k))] [(.ref (A k))])
        obtain ⟨T1, X1, e1, st1⟩ := getF X0 hx hZ hown (host := "") (Or.inl (hw _ (List.mem_of_getElem? (i := 48) rfl))) Via.refl e0 (H0k.ext O0.2) (g := (mkF m 14 #[.val (.ref a1), .val (.ref (A b)), .val (.ref (A k))] [(.ref (A k))])) rfl rfl (hb hby d1_14)
        refine own_st st1 ?_
        show own_Ends _ _ _ _ _ _ _ T1 (mkF m 17 #[.val (.ref a1), .val (.ref (A b)), .val (.ref (A k))] [.null])
        refine own_st (fun _ kq => XS.astoreN X1.here hx rfl (hb hby d1_17) rfl rfl (l' := #[.val (.ref a1), .val (.ref (A b)), .val .null]) rfl kq) ?_
        show own_Ends _ _ _ _ _ _ _ T1 (mkF m 18 #[.val (.ref a1), .val (.ref (A b)), .val .null] [])
        refine own_st (fun _ kq => XS.goto X1.here hx rfl (pc0 := 18) (pc' := 2) rfl (hb hby d1_18) (by decide) (by decide) kq) ?_
        show own_Ends _ _ _ _ _ _ _ T1 (mkF m 2 #[.val (.ref a1), .val (.ref (A b)), .val .null] [])
        refine own_st (fun _ kq => XS.aloadN X1.here hx rfl (hb hby d1_2) rfl rfl kq) ?_
        show own_Ends _ _ _ _ _ _ _ T1 (mkF m 3 #[.val (.ref a1), .val (.ref (A b)), .val .null] [.null])
        refine own_st (fun _ kq => XS.ifnullYes X1.here hx rfl (pc0 := 3) (pc' := 21) rfl (hb hby d1_3) rfl (by decide) (by decide) kq) ?_
        show own_Ends _ _ _ _ _ _ _ T1 (mkF m 21 #[.val (.ref a1), .val (.ref (A b)), .val .null] [])
        refine own_st (fun _ kq => XS.iconst X1.here hx rfl (hb hby d1_21) kq) ?_
        show own_Ends _ _ _ _ _ _ _ T1 (mkF m 22 #[.val (.ref a1), .val (.ref (A b)), .val .null] [(.int (0 : Int32))])
        refine own_retN X1 hx (t := .boolean) hret (by simp) (hb hby d1_22) hlk (Nat.zero_le _) (Nat.zero_le _) (w := (0 : Int32)) (by decide) ?_
        rw [e1]
        have ev : own_val (f + 1) k b = 0 := by show (if k = b then (1 : Int32) else if k = 0 then 0 else own_val f (own_wid k) b) = _; rw [if_neg hkb, if_pos hk0]
        rw [ev] at hQ
        exact hQ
      · skip
        show own_Ends _ _ _ _ _ _ _ T (mkF m 14 #[.val (.ref a1), .val (.ref (A b)), .val (.ref (A k))] [(.ref (A k))])
        obtain ⟨T2, X2, e2, st2⟩ := getF X0 hx hZ hown (host := "") (Or.inl (hw _ (List.mem_of_getElem? (i := 48) rfl))) Via.refl e0 ((HWd k hk hk0).ext O0.2) (g := (mkF m 14 #[.val (.ref a1), .val (.ref (A b)), .val (.ref (A k))] [(.ref (A k))])) rfl rfl (hb hby d1_14)
        refine own_st st2 ?_
        show own_Ends _ _ _ _ _ _ _ T2 (mkF m 17 #[.val (.ref a1), .val (.ref (A b)), .val (.ref (A k))] [(.ref (A (own_wid k)))])
        refine own_st (fun _ kq => XS.astoreN X2.here hx rfl (hb hby d1_17) rfl rfl (l' := #[.val (.ref a1), .val (.ref (A b)), .val (.ref (A (own_wid k)))]) rfl kq) ?_
        show own_Ends _ _ _ _ _ _ _ T2 (mkF m 18 #[.val (.ref a1), .val (.ref (A b)), .val (.ref (A (own_wid k)))] [])
        refine own_st (fun _ kq => XS.goto X2.here hx rfl (pc0 := 18) (pc' := 2) rfl (hb hby d1_18) (by decide) (by decide) kq) ?_
        show own_Ends _ _ _ _ _ _ _ T2 (mkF m 2 #[.val (.ref a1), .val (.ref (A b)), .val (.ref (A (own_wid k)))] [])
        have ev : own_val (f + 1) k b = own_val f (own_wid k) b := by show (if k = b then (1 : Int32) else if k = 0 then 0 else own_val f (own_wid k) b) = _; rw [if_neg hkb, if_neg hk0]
        rw [ev] at hQ
        exact ih (own_wid k) (Nat.lt_of_lt_of_le (own_wlt k hk hk0) (Nat.le_of_lt_succ hkf)) (Nat.lt_trans (own_wlt k hk hk0) hk) T2 X2 e2 hQ
theorem pn_1 : plainName "com/example/consistent_answers/consistentanswers/ontology/Datatype" = true := by first | (simp [plainName, overriddenIn]; done) | decide +kernel
theorem ef_rm_within (m : MethodId) (x0 : Addr) (x1 : Addr) : entryFrame m #[(.ref x0), (.ref x1)] 3 = mkF m 0 #[.val (.ref x0), .val (.ref x1), .unset] [] := by first | (simp [entryFrame, mkF, argsToLocals, Value.category]; done) | rfl
def Q_rm_within (Z : State) (A : Nat → Addr) (ia : Nat) (ib : Nat) (w : Int32) (h0 : Heap) (n0 : Nat) (v : Option Value) (h : Heap) (L : List Loc) : Prop := v = some (.int w) ∧ Fr n0 L ∧ h = h0
set_option maxRecDepth 65536 in
set_option maxHeartbeats 40000000 in
theorem rm_within (l : Launch) (Z : State) (a0 : Array Value) (hw : ∀ d ∈ tables_1, d.before a0 Z = true) (ws : List Jvm.Cond) (A : Nat → Addr) (ia : Nat) (ib : Nat) (w : Int32) (h0 : Heap) (n0 : Nat) (O0 : Old Z n0 h0) (HG : own_H Z A) (ha' : ia < 19) (hb' : ib < 19) (hv : own_val 19 ia ib = w) :
    MetFree l (⟨"com/example/consistent_answers/consistentanswers/ontology/Datatype", "isWithin", "(Lcom/example/consistent_answers/consistentanswers/ontology/Datatype;)Z"⟩ : MethodName) (head1 (Jvm.Cond.code (⟨"com/example/consistent_answers/consistentanswers/ontology/Datatype", "isWithin", "(Lcom/example/consistent_answers/consistentanswers/ontology/Datatype;)Z"⟩ : MethodName) prog_8_method_6_code 3 (some .boolean) :: ws) ({ frames := 0, cells := 0, slots := 0, locals := 0 } : Room)) (fun a U => a = #[(.ref (A ia)), (.ref (A ib))] ∧ Z.Warmed39 U.vm ∧ U.heap = h0) (fun _ _ _ _ _ => True) (fun _ U o U' => ∃ v L, o = .returned v ∧ Q_rm_within Z A ia ib w h0 n0 v U'.heap L ∧ FrameEnd U o U' L ({ frames := 0, cells := 0, slots := 0, locals := 0 } : Room).cells ({ frames := 0, cells := 0, slots := 0, locals := 0 } : Room).slots) := by
  refine MetFree.of_bodySF (plainFor_of_name pn_1) hisR ?_
  intro p e s m args below meth c s₁ Bd hml0 hP hK
  obtain ⟨rfl, hZ, hh⟩ := hP
  have hx := Bd.exec
  have hby := Bd.bytes
  have hml : c.maxLocals = 3 := hml0
  have hown : s.vm.findClass "com/example/consistent_answers/consistentanswers/ontology/Datatype" = some m.cls := findClass_of_methodNamed Bd.named
  have hnm := (name_of_methodNamed Bd.named Bd.method).1
  have hlk := BodyLoose.notSynchronized Bd
  have X0 : Stand p l e ({ frames := 0, cells := 0, slots := 0, locals := 0 } : Room) s m #[(.ref (A ia)), (.ref (A ib))] below meth c s₁ [] 0 0 := Stand.of_body Bd
  have e0 : s₁.heap = h0 := by rw [← hh, Bd.state]; rfl
  have N0 := Fr.nil n0
  show own_Ends p e below s (Q_rm_within Z A ia ib w h0 n0) ({ frames := 0, cells := 0, slots := 0, locals := 0 } : Room).cells ({ frames := 0, cells := 0, slots := 0, locals := 0 } : Room).slots s₁ (entryFrame m #[(.ref (A ia)), (.ref (A ib))] 3)
  rw [ef_rm_within m (A ia) (A ib)]
  show own_Ends _ _ _ _ _ _ _ s₁ (mkF m 0 #[.val (.ref (A ia)), .val (.ref (A ib)), .unset] [])
  refine own_st (fun _ kq => XS.aloadN X0.here hx rfl (hb hby d1_0) rfl rfl kq) ?_
  show own_Ends _ _ _ _ _ _ _ s₁ (mkF m 1 #[.val (.ref (A ia)), .val (.ref (A ib)), .unset] [(.ref (A ia))])
  refine own_st (fun _ kq => XS.astoreN X0.here hx rfl (hb hby d1_1) rfl rfl (l' := #[.val (.ref (A ia)), .val (.ref (A ib)), .val (.ref (A ia))]) rfl kq) ?_
  show own_Ends _ _ _ _ _ _ _ s₁ (mkF m 2 #[.val (.ref (A ia)), .val (.ref (A ib)), .val (.ref (A ia))] [])
  exact own_loop hx hZ hw hby hown hlk Bd.returns O0 HG hb' 19 ia ha' ha' s₁ X0 e0 ⟨congrArg (fun z => some (Value.int z)) hv, N0, rfl⟩
theorem ef_rm_law (m : MethodId) (x0 : Int32) (x1 : Int32) : entryFrame m #[(.int x0), (.int x1)] maxLocals = mkF m 0 #[.val (.int x0), .val (.int x1), .unset, .unset, .unset, .unset, .unset, .unset, .unset] [] := by first | (simp [entryFrame, mkF, argsToLocals, Value.category, maxLocals]; done) | rfl
def Q_rm_law (Z : State) (p1 : Int32) (p2 : Int32) (r0 : Addr) (r1 : Addr) (r2 : Addr) (r3 : Addr) (r4 : Addr) (r5 : Addr) (r6 : Addr) (r7 : Addr) (r8 : Addr) (r9 : Addr) (r10 : Addr) (r11 : Addr) (r12 : Addr) (r13 : Addr) (r14 : Addr) (r15 : Addr) (r16 : Addr) (r17 : Addr) (r18 : Addr) (h0 : Heap) (n0 : Nat) (v : Option Value) (h : Heap) (L : List Loc) : Prop := v = some (.int 1) ∧ Fr n0 L
set_option maxRecDepth 65536 in
set_option maxHeartbeats 40000000 in
theorem rm_law (l : Launch) (Z : State) (a0 : Array Value) (hw : ∀ d ∈ tables_1, d.before a0 Z = true) (ws : List Jvm.Cond) (p1 : Int32) (p2 : Int32) (r0 : Addr) (r1 : Addr) (r2 : Addr) (r3 : Addr) (r4 : Addr) (r5 : Addr) (r6 : Addr) (r7 : Addr) (r8 : Addr) (r9 : Addr) (r10 : Addr) (r11 : Addr) (r12 : Addr) (r13 : Addr) (r14 : Addr) (r15 : Addr) (r16 : Addr) (r17 : Addr) (r18 : Addr) (h0 : Heap) (n0 : Nat) (O0 : Old Z n0 h0) (G : own_W Z r0 r1 r2 r3 r4 r5 r6 r7 r8 r9 r10 r11 r12 r13 r14 r15 r16 r17 r18) :
    MetFree l x (head1 (Jvm.Cond.code x code maxLocals ret :: ws) room_1) (fun a U => a = #[(.int p1), (.int p2)] ∧ Z.Warmed39 U.vm ∧ U.heap = h0) (fun _ _ _ _ _ => True) (fun _ U o U' => ∃ v L, o = .returned v ∧ Q_rm_law Z p1 p2 r0 r1 r2 r3 r4 r5 r6 r7 r8 r9 r10 r11 r12 r13 r14 r15 r16 r17 r18 h0 n0 v U'.heap L ∧ FrameEnd U o U' L room_1.cells room_1.slots) := by
  refine MetFree.of_bodySF (plainFor_of_name pn_0) hisR ?_
  intro p e s m args below meth c s₁ Bd hml0 hP hK
  obtain ⟨rfl, hZ, hh⟩ := hP
  have hx := Bd.exec
  have hby := Bd.bytes
  have hml : c.maxLocals = 9 := hml0
  have hown : s.vm.findClass "com/example/consistent_answers/consistentanswers/ontology/DatatypeIsWithinPinLaw" = some m.cls := findClass_of_methodNamed Bd.named
  have hnm := (name_of_methodNamed Bd.named Bd.method).1
  have hlk := BodyLoose.notSynchronized Bd
  have X0 : Stand p l e room_1 s m #[(.int p1), (.int p2)] below meth c s₁ [] 0 0 := Stand.of_body Bd
  have e0 : s₁.heap = h0 := by rw [← hh, Bd.state]; rfl
  have N0 := Fr.nil n0
  show own_Ends p e below s (Q_rm_law Z p1 p2 r0 r1 r2 r3 r4 r5 r6 r7 r8 r9 r10 r11 r12 r13 r14 r15 r16 r17 r18 h0 n0) room_1.cells room_1.slots s₁ (entryFrame m #[(.int p1), (.int p2)] maxLocals)
  rw [ef_rm_law m p1 p2]
  have G' := G
  obtain ⟨S_0, E_0, S_1, E_1, S_2, E_2, S_3, E_3, S_4, E_4, S_5, E_5, S_6, E_6, S_7, E_7, S_8, E_8, S_9, E_9, S_10, E_10, S_11, E_11, S_12, E_12, S_13, E_13, S_14, E_14, S_15, E_15, S_16, E_16, S_17, E_17, S_18, E_18, F_0_ordinal, F_3_ordinal, F_0_wider, F_14_ordinal, F_1_ordinal, F_14_wider, F_13_ordinal, F_13_wider, F_17_ordinal, F_2_ordinal, F_2_wider, F_9_ordinal, F_9_wider, F_8_ordinal, F_8_wider, F_3_wider, F_1_wider, F_6_ordinal, F_10_ordinal, F_6_wider, F_5_ordinal, F_5_wider, F_4_ordinal, F_4_wider, F_12_ordinal, F_12_wider, F_11_ordinal, F_11_wider, F_10_wider, F_7_ordinal, F_7_wider, F_16_ordinal, F_16_wider, F_15_ordinal, F_18_ordinal, F_15_wider, F_18_wider, F_17_wider⟩ := G'
  show own_Ends _ _ _ _ _ _ _ s₁ (mkF m 0 #[.val (.int p1), .val (.int p2), .unset, .unset, .unset, .unset, .unset, .unset, .unset] [])
  refine own_st (fun _ kq => XS.bipush X0.here hx rfl (hb hby at_0) kq) ?_
  show own_Ends _ _ _ _ _ _ _ s₁ (mkF m 2 #[.val (.int p1), .val (.int p2), .unset, .unset, .unset, .unset, .unset, .unset, .unset] [(.int (19 : Int32))])
  obtain ⟨T1, h1, k1, X1, e1, E1, A1, Ov, st1⟩ := newR X0 hx hZ hown (hw _ (List.mem_of_getElem? (i := 0) rfl)) (hw _ (List.mem_of_getElem? (i := 1) rfl)) e0 (g := (mkF m 2 #[.val (.int p1), .val (.int p2), .unset, .unset, .unset, .unset, .unset, .unset, .unset] [(.int (19 : Int32))])) rfl (hb hby at_2) rfl (by decide) (cap := 19) (by decide) (by decide) (by decide) (by decide)
  obtain ⟨b1, g1⟩ : ∃ z, z = h0.size := ⟨_, rfl⟩
  rw [← g1] at A1 st1
  have gb : n0 ≤ b1 := Nat.le_trans (O0.1 ▸ O0.2.1) (Nat.le_of_eq g1.symm)
  have V0 : Arv Z h1 b1 k1 (.object "com/example/consistent_answers/consistentanswers/ontology/Datatype") (19 : Int32) [.null, .null, .null, .null, .null, .null, .null, .null, .null, .null, .null, .null, .null, .null, .null, .null, .null, .null, .null] .null := (Arv.new A1 (by decide)).pad (pad_rep [] .null 19)
  have O1 := O0.ext E1
  refine own_st st1 ?_
  show own_Ends _ _ _ _ _ _ _ T1 (mkF m 5 #[.val (.int p1), .val (.int p2), .unset, .unset, .unset, .unset, .unset, .unset, .unset] [(.ref b1)])
  refine own_st (fun _ kq => XS.dup X1.here hx rfl (hb hby at_5) rfl rfl kq) ?_
  show own_Ends _ _ _ _ _ _ _ T1 (mkF m 6 #[.val (.int p1), .val (.int p2), .unset, .unset, .unset, .unset, .unset, .unset, .unset] [(.ref b1), (.ref b1)])
  refine own_st (fun _ kq => XS.iconst X1.here hx rfl (hb hby at_6) kq) ?_
  show own_Ends _ _ _ _ _ _ _ T1 (mkF m 7 #[.val (.int p1), .val (.int p2), .unset, .unset, .unset, .unset, .unset, .unset, .unset] [(.int (0 : Int32)), (.ref b1), (.ref b1)])
  obtain ⟨T2, X2, e2, st2⟩ := getS2 X1 hx hZ hown (host := "") (Or.inl (hw _ (List.mem_of_getElem? (i := 2) rfl))) Via.refl e1 (S_0.ext O1.2) (g := (mkF m 7 #[.val (.int p1), .val (.int p2), .unset, .unset, .unset, .unset, .unset, .unset, .unset] [(.int (0 : Int32)), (.ref b1), (.ref b1)])) rfl (hb hby at_7)
  refine own_st st2 ?_
  show own_Ends _ _ _ _ _ _ _ T2 (mkF m 10 #[.val (.int p1), .val (.int p2), .unset, .unset, .unset, .unset, .unset, .unset, .unset] [(.ref r0), (.int (0 : Int32)), (.ref b1), (.ref b1)])
  obtain ⟨T3, h3, X3, e3, W3, V3', st3⟩ := own_fill X2 hx hZ e2 V0 Ov (Ins.self (E_0.ext O1.2)) (j := (0 : Int32)) 0 rfl (by simp) (by decide) (g := (mkF m 10 #[.val (.int p1), .val (.int p2), .unset, .unset, .unset, .unset, .unset, .unset, .unset] [(.ref r0), (.int (0 : Int32)), (.ref b1), (.ref b1)])) rfl rfl (hb hby at_10)
  have V3 : Arv Z h3 b1 k1 (.object "com/example/consistent_answers/consistentanswers/ontology/Datatype") (19 : Int32) [(.ref r0), .null, .null, .null, .null, .null, .null, .null, .null, .null, .null, .null, .null, .null, .null, .null, .null, .null, .null] .null := V3'
  have N3 := Fr.snoc X3 N0 gb
  have O3 := O1.wr W3 gb
  refine own_st st3 ?_
  show own_Ends _ _ _ _ _ _ _ T3 (mkF m 11 #[.val (.int p1), .val (.int p2), .unset, .unset, .unset, .unset, .unset, .unset, .unset] [(.ref b1)])
  refine own_st (fun _ kq => XS.dup X3.here hx rfl (hb hby at_11) rfl rfl kq) ?_
  show own_Ends _ _ _ _ _ _ _ T3 (mkF m 12 #[.val (.int p1), .val (.int p2), .unset, .unset, .unset, .unset, .unset, .unset, .unset] [(.ref b1), (.ref b1)])
  refine own_st (fun _ kq => XS.iconst X3.here hx rfl (hb hby at_12) kq) ?_
  show own_Ends _ _ _ _ _ _ _ T3 (mkF m 13 #[.val (.int p1), .val (.int p2), .unset, .unset, .unset, .unset, .unset, .unset, .unset] [(.int (1 : Int32)), (.ref b1), (.ref b1)])
  obtain ⟨T4, X4, e4, st4⟩ := getS2 X3 hx hZ hown (host := "") (Or.inl (hw _ (List.mem_of_getElem? (i := 6) rfl))) Via.refl e3 (S_1.ext O3.2) (g := (mkF m 13 #[.val (.int p1), .val (.int p2), .unset, .unset, .unset, .unset, .unset, .unset, .unset] [(.int (1 : Int32)), (.ref b1), (.ref b1)])) rfl (hb hby at_13)
  refine own_st st4 ?_
  show own_Ends _ _ _ _ _ _ _ T4 (mkF m 16 #[.val (.int p1), .val (.int p2), .unset, .unset, .unset, .unset, .unset, .unset, .unset] [(.ref r1), (.int (1 : Int32)), (.ref b1), (.ref b1)])
  obtain ⟨T5, h5, X5, e5, W5, V5', st5⟩ := own_fill X4 hx hZ e4 V3 Ov (Ins.self (E_1.ext O3.2)) (j := (1 : Int32)) 1 rfl (by simp) (by decide) (g := (mkF m 16 #[.val (.int p1), .val (.int p2), .unset, .unset, .unset, .unset, .unset, .unset, .unset] [(.ref r1), (.int (1 : Int32)), (.ref b1), (.ref b1)])) rfl rfl (hb hby at_16)
  have V5 : Arv Z h5 b1 k1 (.object "com/example/consistent_answers/consistentanswers/ontology/Datatype") (19 : Int32) [(.ref r0), (.ref r1), .null, .null, .null, .null, .null, .null, .null, .null, .null, .null, .null, .null, .null, .null, .null, .null, .null] .null := V5'
  have N5 := Fr.snoc X5 N3 gb
  have O5 := O3.wr W5 gb
  refine own_st st5 ?_
  show own_Ends _ _ _ _ _ _ _ T5 (mkF m 17 #[.val (.int p1), .val (.int p2), .unset, .unset, .unset, .unset, .unset, .unset, .unset] [(.ref b1)])
  refine own_st (fun _ kq => XS.dup X5.here hx rfl (hb hby at_17) rfl rfl kq) ?_
  show own_Ends _ _ _ _ _ _ _ T5 (mkF m 18 #[.val (.int p1), .val (.int p2), .unset, .unset, .unset, .unset, .unset, .unset, .unset] [(.ref b1), (.ref b1)])
  refine own_st (fun _ kq => XS.iconst X5.here hx rfl (hb hby at_18) kq) ?_
  show own_Ends _ _ _ _ _ _ _ T5 (mkF m 19 #[.val (.int p1), .val (.int p2), .unset, .unset, .unset, .unset, .unset, .unset, .unset] [(.int (2 : Int32)), (.ref b1), (.ref b1)])
  obtain ⟨T6, X6, e6, st6⟩ := getS2 X5 hx hZ hown (host := "") (Or.inl (hw _ (List.mem_of_getElem? (i := 8) rfl))) Via.refl e5 (S_2.ext O5.2) (g := (mkF m 19 #[.val (.int p1), .val (.int p2), .unset, .unset, .unset, .unset, .unset, .unset, .unset] [(.int (2 : Int32)), (.ref b1), (.ref b1)])) rfl (hb hby at_19)
  refine own_st st6 ?_
  show own_Ends _ _ _ _ _ _ _ T6 (mkF m 22 #[.val (.int p1), .val (.int p2), .unset, .unset, .unset, .unset, .unset, .unset, .unset] [(.ref r2), (.int (2 : Int32)), (.ref b1), (.ref b1)])
  obtain ⟨T7, h7, X7, e7, W7, V7', st7⟩ := own_fill X6 hx hZ e6 V5 Ov (Ins.self (E_2.ext O5.2)) (j := (2 : Int32)) 2 rfl (by simp) (by decide) (g := (mkF m 22 #[.val (.int p1), .val (.int p2), .unset, .unset, .unset, .unset, .unset, .unset, .unset] [(.ref r2), (.int (2 : Int32)), (.ref b1), (.ref b1)])) rfl rfl (hb hby at_22)
  have V7 : Arv Z h7 b1 k1 (.object "com/example/consistent_answers/consistentanswers/ontology/Datatype") (19 : Int32) [(.ref r0), (.ref r1), (.ref r2), .null, .null, .null, .null, .null, .null, .null, .null, .null, .null, .null, .null, .null, .null, .null, .null] .null := V7'
  have N7 := Fr.snoc X7 N5 gb
  have O7 := O5.wr W7 gb
  refine own_st st7 ?_
  show own_Ends _ _ _ _ _ _ _ T7 (mkF m 23 #[.val (.int p1), .val (.int p2), .unset, .unset, .unset, .unset, .unset, .unset, .unset] [(.ref b1)])
  refine own_st (fun _ kq => XS.dup X7.here hx rfl (hb hby at_23) rfl rfl kq) ?_
  show own_Ends _ _ _ _ _ _ _ T7 (mkF m 24 #[.val (.int p1), .val (.int p2), .unset, .unset, .unset, .unset, .unset, .unset, .unset] [(.ref b1), (.ref b1)])
  refine own_st (fun _ kq => XS.iconst X7.here hx rfl (hb hby at_24) kq) ?_
  show own_Ends _ _ _ _ _ _ _ T7 (mkF m 25 #[.val (.int p1), .val (.int p2), .unset, .unset, .unset, .unset, .unset, .unset, .unset] [(.int (3 : Int32)), (.ref b1), (.ref b1)])
  obtain ⟨T8, X8, e8, st8⟩ := getS2 X7 hx hZ hown (host := "") (Or.inl (hw _ (List.mem_of_getElem? (i := 10) rfl))) Via.refl e7 (S_3.ext O7.2) (g := (mkF m 25 #[.val (.int p1), .val (.int p2), .unset, .unset, .unset, .unset, .unset, .unset, .unset] [(.int (3 : Int32)), (.ref b1), (.ref b1)])) rfl (hb hby at_25)
  refine own_st st8 ?_
  show own_Ends _ _ _ _ _ _ _ T8 (mkF m 28 #[.val (.int p1), .val (.int p2), .unset, .unset, .unset, .unset, .unset, .unset, .unset] [(.ref r3), (.int (3 : Int32)), (.ref b1), (.ref b1)])
  obtain ⟨T9, h9, X9, e9, W9, V9', st9⟩ := own_fill X8 hx hZ e8 V7 Ov (Ins.self (E_3.ext O7.2)) (j := (3 : Int32)) 3 rfl (by simp) (by decide) (g := (mkF m 28 #[.val (.int p1), .val (.int p2), .unset, .unset, .unset, .unset, .unset, .unset, .unset] [(.ref r3), (.int (3 : Int32)), (.ref b1), (.ref b1)])) rfl rfl (hb hby at_28)
  have V9 : Arv Z h9 b1 k1 (.object "com/example/consistent_answers/consistentanswers/ontology/Datatype") (19 : Int32) [(.ref r0), (.ref r1), (.ref r2), (.ref r3), .null, .null, .null, .null, .null, .null, .null, .null, .null, .null, .null, .null, .null, .null, .null] .null := V9'
  have N9 := Fr.snoc X9 N7 gb
  have O9 := O7.wr W9 gb
  refine own_st st9 ?_
  show own_Ends _ _ _ _ _ _ _ T9 (mkF m 29 #[.val (.int p1), .val (.int p2), .unset, .unset, .unset, .unset, .unset, .unset, .unset] [(.ref b1)])
  refine own_st (fun _ kq => XS.dup X9.here hx rfl (hb hby at_29) rfl rfl kq) ?_
  show own_Ends _ _ _ _ _ _ _ T9 (mkF m 30 #[.val (.int p1), .val (.int p2), .unset, .unset, .unset, .unset, .unset, .unset, .unset] [(.ref b1), (.ref b1)])
  refine own_st (fun _ kq => XS.iconst X9.here hx rfl (hb hby at_30) kq) ?_
  show own_Ends _ _ _ _ _ _ _ T9 (mkF m 31 #[.val (.int p1), .val (.int p2), .unset, .unset, .unset, .unset, .unset, .unset, .unset] [(.int (4 : Int32)), (.ref b1), (.ref b1)])
  obtain ⟨T10, X10, e10, st10⟩ := getS2 X9 hx hZ hown (host := "") (Or.inl (hw _ (List.mem_of_getElem? (i := 12) rfl))) Via.refl e9 (S_4.ext O9.2) (g := (mkF m 31 #[.val (.int p1), .val (.int p2), .unset, .unset, .unset, .unset, .unset, .unset, .unset] [(.int (4 : Int32)), (.ref b1), (.ref b1)])) rfl (hb hby at_31)
  refine own_st st10 ?_
  show own_Ends _ _ _ _ _ _ _ T10 (mkF m 34 #[.val (.int p1), .val (.int p2), .unset, .unset, .unset, .unset, .unset, .unset, .unset] [(.ref r4), (.int (4 : Int32)), (.ref b1), (.ref b1)])
  obtain ⟨T11, h11, X11, e11, W11, V11', st11⟩ := own_fill X10 hx hZ e10 V9 Ov (Ins.self (E_4.ext O9.2)) (j := (4 : Int32)) 4 rfl (by simp) (by decide) (g := (mkF m 34 #[.val (.int p1), .val (.int p2), .unset, .unset, .unset, .unset, .unset, .unset, .unset] [(.ref r4), (.int (4 : Int32)), (.ref b1), (.ref b1)])) rfl rfl (hb hby at_34)
  have V11 : Arv Z h11 b1 k1 (.object "com/example/consistent_answers/consistentanswers/ontology/Datatype") (19 : Int32) [(.ref r0), (.ref r1), (.ref r2), (.ref r3), (.ref r4), .null, .null, .null, .null, .null, .null, .null, .null, .null, .null, .null, .null, .null, .null] .null := V11'
  have N11 := Fr.snoc X11 N9 gb
  have O11 := O9.wr W11 gb
  refine own_st st11 ?_
  show own_Ends _ _ _ _ _ _ _ T11 (mkF m 35 #[.val (.int p1), .val (.int p2), .unset, .unset, .unset, .unset, .unset, .unset, .unset] [(.ref b1)])
  refine own_st (fun _ kq => XS.dup X11.here hx rfl (hb hby at_35) rfl rfl kq) ?_
  show own_Ends _ _ _ _ _ _ _ T11 (mkF m 36 #[.val (.int p1), .val (.int p2), .unset, .unset, .unset, .unset, .unset, .unset, .unset] [(.ref b1), (.ref b1)])
  refine own_st (fun _ kq => XS.iconst X11.here hx rfl (hb hby at_36) kq) ?_
  show own_Ends _ _ _ _ _ _ _ T11 (mkF m 37 #[.val (.int p1), .val (.int p2), .unset, .unset, .unset, .unset, .unset, .unset, .unset] [(.int (5 : Int32)), (.ref b1), (.ref b1)])
  obtain ⟨T12, X12, e12, st12⟩ := getS2 X11 hx hZ hown (host := "") (Or.inl (hw _ (List.mem_of_getElem? (i := 14) rfl))) Via.refl e11 (S_5.ext O11.2) (g := (mkF m 37 #[.val (.int p1), .val (.int p2), .unset, .unset, .unset, .unset, .unset, .unset, .unset] [(.int (5 : Int32)), (.ref b1), (.ref b1)])) rfl (hb hby at_37)
  refine own_st st12 ?_
  show own_Ends _ _ _ _ _ _ _ T12 (mkF m 40 #[.val (.int p1), .val (.int p2), .unset, .unset, .unset, .unset, .unset, .unset, .unset] [(.ref r5), (.int (5 : Int32)), (.ref b1), (.ref b1)])
  obtain ⟨T13, h13, X13, e13, W13, V13', st13⟩ := own_fill X12 hx hZ e12 V11 Ov (Ins.self (E_5.ext O11.2)) (j := (5 : Int32)) 5 rfl (by simp) (by decide) (g := (mkF m 40 #[.val (.int p1), .val (.int p2), .unset, .unset, .unset, .unset, .unset, .unset, .unset] [(.ref r5), (.int (5 : Int32)), (.ref b1), (.ref b1)])) rfl rfl (hb hby at_40)
  have V13 : Arv Z h13 b1 k1 (.object "com/example/consistent_answers/consistentanswers/ontology/Datatype") (19 : Int32) [(.ref r0), (.ref r1), (.ref r2), (.ref r3), (.ref r4), (.ref r5), .null, .null, .null, .null, .null, .null, .null, .null, .null, .null, .null, .null, .null] .null := V13'
  have N13 := Fr.snoc X13 N11 gb
  have O13 := O11.wr W13 gb
  refine own_st st13 ?_
  show own_Ends _ _ _ _ _ _ _ T13 (mkF m 41 #[.val (.int p1), .val (.int p2), .unset, .unset, .unset, .unset, .unset, .unset, .unset] [(.ref b1)])
  refine own_st (fun _ kq => XS.dup X13.here hx rfl (hb hby at_41) rfl rfl kq) ?_
  show own_Ends _ _ _ _ _ _ _ T13 (mkF m 42 #[.val (.int p1), .val (.int p2), .unset, .unset, .unset, .unset, .unset, .unset, .unset] [(.ref b1), (.ref b1)])
  refine own_st (fun _ kq => XS.bipush X13.here hx rfl (hb hby at_42) kq) ?_
  show own_Ends _ _ _ _ _ _ _ T13 (mkF m 44 #[.val (.int p1), .val (.int p2), .unset, .unset, .unset, .unset, .unset, .unset, .unset] [(.int (6 : Int32)), (.ref b1), (.ref b1)])
  obtain ⟨T14, X14, e14, st14⟩ := getS2 X13 hx hZ hown (host := "") (Or.inl (hw _ (List.mem_of_getElem? (i := 16) rfl))) Via.refl e13 (S_6.ext O13.2) (g := (mkF m 44 #[.val (.int p1), .val (.int p2), .unset, .unset, .unset, .unset, .unset, .unset, .unset] [(.int (6 : Int32)), (.ref b1), (.ref b1)])) rfl (hb hby at_44)
  refine own_st st14 ?_
  show own_Ends _ _ _ _ _ _ _ T14 (mkF m 47 #[.val (.int p1), .val (.int p2), .unset, .unset, .unset, .unset, .unset, .unset, .unset] [(.ref r6), (.int (6 : Int32)), (.ref b1), (.ref b1)])
  obtain ⟨T15, h15, X15, e15, W15, V15', st15⟩ := own_fill X14 hx hZ e14 V13 Ov (Ins.self (E_6.ext O13.2)) (j := (6 : Int32)) 6 rfl (by simp) (by decide) (g := (mkF m 47 #[.val (.int p1), .val (.int p2), .unset, .unset, .unset, .unset, .unset, .unset, .unset] [(.ref r6), (.int (6 : Int32)), (.ref b1), (.ref b1)])) rfl rfl (hb hby at_47)
  have V15 : Arv Z h15 b1 k1 (.object "com/example/consistent_answers/consistentanswers/ontology/Datatype") (19 : Int32) [(.ref r0), (.ref r1), (.ref r2), (.ref r3), (.ref r4), (.ref r5), (.ref r6), .null, .null, .null, .null, .null, .null, .null, .null, .null, .null, .null, .null] .null := V15'
  have N15 := Fr.snoc X15 N13 gb
  have O15 := O13.wr W15 gb
  refine own_st st15 ?_
  show own_Ends _ _ _ _ _ _ _ T15 (mkF m 48 #[.val (.int p1), .val (.int p2), .unset, .unset, .unset, .unset, .unset, .unset, .unset] [(.ref b1)])
  refine own_st (fun _ kq => XS.dup X15.here hx rfl (hb hby at_48) rfl rfl kq) ?_
  show own_Ends _ _ _ _ _ _ _ T15 (mkF m 49 #[.val (.int p1), .val (.int p2), .unset, .unset, .unset, .unset, .unset, .unset, .unset] [(.ref b1), (.ref b1)])
  refine own_st (fun _ kq => XS.bipush X15.here hx rfl (hb hby at_49) kq) ?_
  show own_Ends _ _ _ _ _ _ _ T15 (mkF m 51 #[.val (.int p1), .val (.int p2), .unset, .unset, .unset, .unset, .unset, .unset, .unset] [(.int (7 : Int32)), (.ref b1), (.ref b1)])
  obtain ⟨T16, X16, e16, st16⟩ := getS2 X15 hx hZ hown (host := "") (Or.inl (hw _ (List.mem_of_getElem? (i := 18) rfl))) Via.refl e15 (S_7.ext O15.2) (g := (mkF m 51 #[.val (.int p1), .val (.int p2), .unset, .unset, .unset, .unset, .unset, .unset, .unset] [(.int (7 : Int32)), (.ref b1), (.ref b1)])) rfl (hb hby at_51)
  refine own_st st16 ?_
  show own_Ends _ _ _ _ _ _ _ T16 (mkF m 54 #[.val (.int p1), .val (.int p2), .unset, .unset, .unset, .unset, .unset, .unset, .unset] [(.ref r7), (.int (7 : Int32)), (.ref b1), (.ref b1)])
  obtain ⟨T17, h17, X17, e17, W17, V17', st17⟩ := own_fill X16 hx hZ e16 V15 Ov (Ins.self (E_7.ext O15.2)) (j := (7 : Int32)) 7 rfl (by simp) (by decide) (g := (mkF m 54 #[.val (.int p1), .val (.int p2), .unset, .unset, .unset, .unset, .unset, .unset, .unset] [(.ref r7), (.int (7 : Int32)), (.ref b1), (.ref b1)])) rfl rfl (hb hby at_54)
  have V17 : Arv Z h17 b1 k1 (.object "com/example/consistent_answers/consistentanswers/ontology/Datatype") (19 : Int32) [(.ref r0), (.ref r1), (.ref r2), (.ref r3), (.ref r4), (.ref r5), (.ref r6), (.ref r7), .null, .null, .null, .null, .null, .null, .null, .null, .null, .null, .null] .null := V17'
  have N17 := Fr.snoc X17 N15 gb
  have O17 := O15.wr W17 gb
  refine own_st st17 ?_
  show own_Ends _ _ _ _ _ _ _ T17 (mkF m 55 #[.val (.int p1), .val (.int p2), .unset, .unset, .unset, .unset, .unset, .unset, .unset] [(.ref b1)])
  refine own_st (fun _ kq => XS.dup X17.here hx rfl (hb hby at_55) rfl rfl kq) ?_
  show own_Ends _ _ _ _ _ _ _ T17 (mkF m 56 #[.val (.int p1), .val (.int p2), .unset, .unset, .unset, .unset, .unset, .unset, .unset] [(.ref b1), (.ref b1)])
  refine own_st (fun _ kq => XS.bipush X17.here hx rfl (hb hby at_56) kq) ?_
  show own_Ends _ _ _ _ _ _ _ T17 (mkF m 58 #[.val (.int p1), .val (.int p2), .unset, .unset, .unset, .unset, .unset, .unset, .unset] [(.int (8 : Int32)), (.ref b1), (.ref b1)])
  obtain ⟨T18, X18, e18, st18⟩ := getS2 X17 hx hZ hown (host := "") (Or.inl (hw _ (List.mem_of_getElem? (i := 20) rfl))) Via.refl e17 (S_8.ext O17.2) (g := (mkF m 58 #[.val (.int p1), .val (.int p2), .unset, .unset, .unset, .unset, .unset, .unset, .unset] [(.int (8 : Int32)), (.ref b1), (.ref b1)])) rfl (hb hby at_58)
  refine own_st st18 ?_
  show own_Ends _ _ _ _ _ _ _ T18 (mkF m 61 #[.val (.int p1), .val (.int p2), .unset, .unset, .unset, .unset, .unset, .unset, .unset] [(.ref r8), (.int (8 : Int32)), (.ref b1), (.ref b1)])
  obtain ⟨T19, h19, X19, e19, W19, V19', st19⟩ := own_fill X18 hx hZ e18 V17 Ov (Ins.self (E_8.ext O17.2)) (j := (8 : Int32)) 8 rfl (by simp) (by decide) (g := (mkF m 61 #[.val (.int p1), .val (.int p2), .unset, .unset, .unset, .unset, .unset, .unset, .unset] [(.ref r8), (.int (8 : Int32)), (.ref b1), (.ref b1)])) rfl rfl (hb hby at_61)
  have V19 : Arv Z h19 b1 k1 (.object "com/example/consistent_answers/consistentanswers/ontology/Datatype") (19 : Int32) [(.ref r0), (.ref r1), (.ref r2), (.ref r3), (.ref r4), (.ref r5), (.ref r6), (.ref r7), (.ref r8), .null, .null, .null, .null, .null, .null, .null, .null, .null, .null] .null := V19'
  have N19 := Fr.snoc X19 N17 gb
  have O19 := O17.wr W19 gb
  refine own_st st19 ?_
  show own_Ends _ _ _ _ _ _ _ T19 (mkF m 62 #[.val (.int p1), .val (.int p2), .unset, .unset, .unset, .unset, .unset, .unset, .unset] [(.ref b1)])
  refine own_st (fun _ kq => XS.dup X19.here hx rfl (hb hby at_62) rfl rfl kq) ?_
  show own_Ends _ _ _ _ _ _ _ T19 (mkF m 63 #[.val (.int p1), .val (.int p2), .unset, .unset, .unset, .unset, .unset, .unset, .unset] [(.ref b1), (.ref b1)])
  refine own_st (fun _ kq => XS.bipush X19.here hx rfl (hb hby at_63) kq) ?_
  show own_Ends _ _ _ _ _ _ _ T19 (mkF m 65 #[.val (.int p1), .val (.int p2), .unset, .unset, .unset, .unset, .unset, .unset, .unset] [(.int (9 : Int32)), (.ref b1), (.ref b1)])
  obtain ⟨T20, X20, e20, st20⟩ := getS2 X19 hx hZ hown (host := "") (Or.inl (hw _ (List.mem_of_getElem? (i := 22) rfl))) Via.refl e19 (S_9.ext O19.2) (g := (mkF m 65 #[.val (.int p1), .val (.int p2), .unset, .unset, .unset, .unset, .unset, .unset, .unset] [(.int (9 : Int32)), (.ref b1), (.ref b1)])) rfl (hb hby at_65)
  refine own_st st20 ?_
  show own_Ends _ _ _ _ _ _ _ T20 (mkF m 68 #[.val (.int p1), .val (.int p2), .unset, .unset, .unset, .unset, .unset, .unset, .unset] [(.ref r9), (.int (9 : Int32)), (.ref b1), (.ref b1)])
  obtain ⟨T21, h21, X21, e21, W21, V21', st21⟩ := own_fill X20 hx hZ e20 V19 Ov (Ins.self (E_9.ext O19.2)) (j := (9 : Int32)) 9 rfl (by simp) (by decide) (g := (mkF m 68 #[.val (.int p1), .val (.int p2), .unset, .unset, .unset, .unset, .unset, .unset, .unset] [(.ref r9), (.int (9 : Int32)), (.ref b1), (.ref b1)])) rfl rfl (hb hby at_68)
  have V21 : Arv Z h21 b1 k1 (.object "com/example/consistent_answers/consistentanswers/ontology/Datatype") (19 : Int32) [(.ref r0), (.ref r1), (.ref r2), (.ref r3), (.ref r4), (.ref r5), (.ref r6), (.ref r7), (.ref r8), (.ref r9), .null, .null, .null, .null, .null, .null, .null, .null, .null] .null := V21'
  have N21 := Fr.snoc X21 N19 gb
  have O21 := O19.wr W21 gb
  refine own_st st21 ?_
  show own_Ends _ _ _ _ _ _ _ T21 (mkF m 69 #[.val (.int p1), .val (.int p2), .unset, .unset, .unset, .unset, .unset, .unset, .unset] [(.ref b1)])
  refine own_st (fun _ kq => XS.dup X21.here hx rfl (hb hby at_69) rfl rfl kq) ?_
  show own_Ends _ _ _ _ _ _ _ T21 (mkF m 70 #[.val (.int p1), .val (.int p2), .unset, .unset, .unset, .unset, .unset, .unset, .unset] [(.ref b1), (.ref b1)])
  refine own_st (fun _ kq => XS.bipush X21.here hx rfl (hb hby at_70) kq) ?_
  show own_Ends _ _ _ _ _ _ _ T21 (mkF m 72 #[.val (.int p1), .val (.int p2), .unset, .unset, .unset, .unset, .unset, .unset, .unset] [(.int (10 : Int32)), (.ref b1), (.ref b1)])
  obtain ⟨T22, X22, e22, st22⟩ := getS2 X21 hx hZ hown (host := "") (Or.inl (hw _ (List.mem_of_getElem? (i := 24) rfl))) Via.refl e21 (S_10.ext O21.2) (g := (mkF m 72 #[.val (.int p1), .val (.int p2), .unset, .unset, .unset, .unset, .unset, .unset, .unset] [(.int (10 : Int32)), (.ref b1), (.ref b1)])) rfl (hb hby at_72)
  refine own_st st22 ?_
  show own_Ends _ _ _ _ _ _ _ T22 (mkF m 75 #[.val (.int p1), .val (.int p2), .unset, .unset, .unset, .unset, .unset, .unset, .unset] [(.ref r10), (.int (10 : Int32)), (.ref b1), (.ref b1)])
  obtain ⟨T23, h23, X23, e23, W23, V23', st23⟩ := own_fill X22 hx hZ e22 V21 Ov (Ins.self (E_10.ext O21.2)) (j := (10 : Int32)) 10 rfl (by simp) (by decide) (g := (mkF m 75 #[.val (.int p1), .val (.int p2), .unset, .unset, .unset, .unset, .unset, .unset, .unset] [(.ref r10), (.int (10 : Int32)), (.ref b1), (.ref b1)])) rfl rfl (hb hby at_75)
  have V23 : Arv Z h23 b1 k1 (.object "com/example/consistent_answers/consistentanswers/ontology/Datatype") (19 : Int32) [(.ref r0), (.ref r1), (.ref r2), (.ref r3), (.ref r4), (.ref r5), (.ref r6), (.ref r7), (.ref r8), (.ref r9), (.ref r10), .null, .null, .null, .null, .null, .null, .null, .null] .null := V23'
  have N23 := Fr.snoc X23 N21 gb
  have O23 := O21.wr W23 gb
  refine own_st st23 ?_
  show own_Ends _ _ _ _ _ _ _ T23 (mkF m 76 #[.val (.int p1), .val (.int p2), .unset, .unset, .unset, .unset, .unset, .unset, .unset] [(.ref b1)])
  refine own_st (fun _ kq => XS.dup X23.here hx rfl (hb hby at_76) rfl rfl kq) ?_
  show own_Ends _ _ _ _ _ _ _ T23 (mkF m 77 #[.val (.int p1), .val (.int p2), .unset, .unset, .unset, .unset, .unset, .unset, .unset] [(.ref b1), (.ref b1)])
  refine own_st (fun _ kq => XS.bipush X23.here hx rfl (hb hby at_77) kq) ?_
  show own_Ends _ _ _ _ _ _ _ T23 (mkF m 79 #[.val (.int p1), .val (.int p2), .unset, .unset, .unset, .unset, .unset, .unset, .unset] [(.int (11 : Int32)), (.ref b1), (.ref b1)])
  obtain ⟨T24, X24, e24, st24⟩ := getS2 X23 hx hZ hown (host := "") (Or.inl (hw _ (List.mem_of_getElem? (i := 26) rfl))) Via.refl e23 (S_11.ext O23.2) (g := (mkF m 79 #[.val (.int p1), .val (.int p2), .unset, .unset, .unset, .unset, .unset, .unset, .unset] [(.int (11 : Int32)), (.ref b1), (.ref b1)])) rfl (hb hby at_79)
  refine own_st st24 ?_
  show own_Ends _ _ _ _ _ _ _ T24 (mkF m 82 #[.val (.int p1), .val (.int p2), .unset, .unset, .unset, .unset, .unset, .unset, .unset] [(.ref r11), (.int (11 : Int32)), (.ref b1), (.ref b1)])
  obtain ⟨T25, h25, X25, e25, W25, V25', st25⟩ := own_fill X24 hx hZ e24 V23 Ov (Ins.self (E_11.ext O23.2)) (j := (11 : Int32)) 11 rfl (by simp) (by decide) (g := (mkF m 82 #[.val (.int p1), .val (.int p2), .unset, .unset, .unset, .unset, .unset, .unset, .unset] [(.ref r11), (.int (11 : Int32)), (.ref b1), (.ref b1)])) rfl rfl (hb hby at_82)
  have V25 : Arv Z h25 b1 k1 (.object "com/example/consistent_answers/consistentanswers/ontology/Datatype") (19 : Int32) [(.ref r0), (.ref r1), (.ref r2), (.ref r3), (.ref r4), (.ref r5), (.ref r6), (.ref r7), (.ref r8), (.ref r9), (.ref r10), (.ref r11), .null, .null, .null, .null, .null, .null, .null] .null := V25'
  have N25 := Fr.snoc X25 N23 gb
  have O25 := O23.wr W25 gb
  refine own_st st25 ?_
  show own_Ends _ _ _ _ _ _ _ T25 (mkF m 83 #[.val (.int p1), .val (.int p2), .unset, .unset, .unset, .unset, .unset, .unset, .unset] [(.ref b1)])
  refine own_st (fun _ kq => XS.dup X25.here hx rfl (hb hby at_83) rfl rfl kq) ?_
  show own_Ends _ _ _ _ _ _ _ T25 (mkF m 84 #[.val (.int p1), .val (.int p2), .unset, .unset, .unset, .unset, .unset, .unset, .unset] [(.ref b1), (.ref b1)])
  refine own_st (fun _ kq => XS.bipush X25.here hx rfl (hb hby at_84) kq) ?_
  show own_Ends _ _ _ _ _ _ _ T25 (mkF m 86 #[.val (.int p1), .val (.int p2), .unset, .unset, .unset, .unset, .unset, .unset, .unset] [(.int (12 : Int32)), (.ref b1), (.ref b1)])
  obtain ⟨T26, X26, e26, st26⟩ := getS2 X25 hx hZ hown (host := "") (Or.inl (hw _ (List.mem_of_getElem? (i := 28) rfl))) Via.refl e25 (S_12.ext O25.2) (g := (mkF m 86 #[.val (.int p1), .val (.int p2), .unset, .unset, .unset, .unset, .unset, .unset, .unset] [(.int (12 : Int32)), (.ref b1), (.ref b1)])) rfl (hb hby at_86)
  refine own_st st26 ?_
  show own_Ends _ _ _ _ _ _ _ T26 (mkF m 89 #[.val (.int p1), .val (.int p2), .unset, .unset, .unset, .unset, .unset, .unset, .unset] [(.ref r12), (.int (12 : Int32)), (.ref b1), (.ref b1)])
  obtain ⟨T27, h27, X27, e27, W27, V27', st27⟩ := own_fill X26 hx hZ e26 V25 Ov (Ins.self (E_12.ext O25.2)) (j := (12 : Int32)) 12 rfl (by simp) (by decide) (g := (mkF m 89 #[.val (.int p1), .val (.int p2), .unset, .unset, .unset, .unset, .unset, .unset, .unset] [(.ref r12), (.int (12 : Int32)), (.ref b1), (.ref b1)])) rfl rfl (hb hby at_89)
  have V27 : Arv Z h27 b1 k1 (.object "com/example/consistent_answers/consistentanswers/ontology/Datatype") (19 : Int32) [(.ref r0), (.ref r1), (.ref r2), (.ref r3), (.ref r4), (.ref r5), (.ref r6), (.ref r7), (.ref r8), (.ref r9), (.ref r10), (.ref r11), (.ref r12), .null, .null, .null, .null, .null, .null] .null := V27'
  have N27 := Fr.snoc X27 N25 gb
  have O27 := O25.wr W27 gb
  refine own_st st27 ?_
  show own_Ends _ _ _ _ _ _ _ T27 (mkF m 90 #[.val (.int p1), .val (.int p2), .unset, .unset, .unset, .unset, .unset, .unset, .unset] [(.ref b1)])
  refine own_st (fun _ kq => XS.dup X27.here hx rfl (hb hby at_90) rfl rfl kq) ?_
  show own_Ends _ _ _ _ _ _ _ T27 (mkF m 91 #[.val (.int p1), .val (.int p2), .unset, .unset, .unset, .unset, .unset, .unset, .unset] [(.ref b1), (.ref b1)])
  refine own_st (fun _ kq => XS.bipush X27.here hx rfl (hb hby at_91) kq) ?_
  show own_Ends _ _ _ _ _ _ _ T27 (mkF m 93 #[.val (.int p1), .val (.int p2), .unset, .unset, .unset, .unset, .unset, .unset, .unset] [(.int (13 : Int32)), (.ref b1), (.ref b1)])
  obtain ⟨T28, X28, e28, st28⟩ := getS2 X27 hx hZ hown (host := "") (Or.inl (hw _ (List.mem_of_getElem? (i := 30) rfl))) Via.refl e27 (S_13.ext O27.2) (g := (mkF m 93 #[.val (.int p1), .val (.int p2), .unset, .unset, .unset, .unset, .unset, .unset, .unset] [(.int (13 : Int32)), (.ref b1), (.ref b1)])) rfl (hb hby at_93)
  refine own_st st28 ?_
  show own_Ends _ _ _ _ _ _ _ T28 (mkF m 96 #[.val (.int p1), .val (.int p2), .unset, .unset, .unset, .unset, .unset, .unset, .unset] [(.ref r13), (.int (13 : Int32)), (.ref b1), (.ref b1)])
  obtain ⟨T29, h29, X29, e29, W29, V29', st29⟩ := own_fill X28 hx hZ e28 V27 Ov (Ins.self (E_13.ext O27.2)) (j := (13 : Int32)) 13 rfl (by simp) (by decide) (g := (mkF m 96 #[.val (.int p1), .val (.int p2), .unset, .unset, .unset, .unset, .unset, .unset, .unset] [(.ref r13), (.int (13 : Int32)), (.ref b1), (.ref b1)])) rfl rfl (hb hby at_96)
  have V29 : Arv Z h29 b1 k1 (.object "com/example/consistent_answers/consistentanswers/ontology/Datatype") (19 : Int32) [(.ref r0), (.ref r1), (.ref r2), (.ref r3), (.ref r4), (.ref r5), (.ref r6), (.ref r7), (.ref r8), (.ref r9), (.ref r10), (.ref r11), (.ref r12), (.ref r13), .null, .null, .null, .null, .null] .null := V29'
  have N29 := Fr.snoc X29 N27 gb
  have O29 := O27.wr W29 gb
  refine own_st st29 ?_
  show own_Ends _ _ _ _ _ _ _ T29 (mkF m 97 #[.val (.int p1), .val (.int p2), .unset, .unset, .unset, .unset, .unset, .unset, .unset] [(.ref b1)])
  refine own_st (fun _ kq => XS.dup X29.here hx rfl (hb hby at_97) rfl rfl kq) ?_
  show own_Ends _ _ _ _ _ _ _ T29 (mkF m 98 #[.val (.int p1), .val (.int p2), .unset, .unset, .unset, .unset, .unset, .unset, .unset] [(.ref b1), (.ref b1)])
  refine own_st (fun _ kq => XS.bipush X29.here hx rfl (hb hby at_98) kq) ?_
  show own_Ends _ _ _ _ _ _ _ T29 (mkF m 100 #[.val (.int p1), .val (.int p2), .unset, .unset, .unset, .unset, .unset, .unset, .unset] [(.int (14 : Int32)), (.ref b1), (.ref b1)])
  obtain ⟨T30, X30, e30, st30⟩ := getS2 X29 hx hZ hown (host := "") (Or.inl (hw _ (List.mem_of_getElem? (i := 32) rfl))) Via.refl e29 (S_14.ext O29.2) (g := (mkF m 100 #[.val (.int p1), .val (.int p2), .unset, .unset, .unset, .unset, .unset, .unset, .unset] [(.int (14 : Int32)), (.ref b1), (.ref b1)])) rfl (hb hby at_100)
  refine own_st st30 ?_
  show own_Ends _ _ _ _ _ _ _ T30 (mkF m 103 #[.val (.int p1), .val (.int p2), .unset, .unset, .unset, .unset, .unset, .unset, .unset] [(.ref r14), (.int (14 : Int32)), (.ref b1), (.ref b1)])
  obtain ⟨T31, h31, X31, e31, W31, V31', st31⟩ := own_fill X30 hx hZ e30 V29 Ov (Ins.self (E_14.ext O29.2)) (j := (14 : Int32)) 14 rfl (by simp) (by decide) (g := (mkF m 103 #[.val (.int p1), .val (.int p2), .unset, .unset, .unset, .unset, .unset, .unset, .unset] [(.ref r14), (.int (14 : Int32)), (.ref b1), (.ref b1)])) rfl rfl (hb hby at_103)
  have V31 : Arv Z h31 b1 k1 (.object "com/example/consistent_answers/consistentanswers/ontology/Datatype") (19 : Int32) [(.ref r0), (.ref r1), (.ref r2), (.ref r3), (.ref r4), (.ref r5), (.ref r6), (.ref r7), (.ref r8), (.ref r9), (.ref r10), (.ref r11), (.ref r12), (.ref r13), (.ref r14), .null, .null, .null, .null] .null := V31'
  have N31 := Fr.snoc X31 N29 gb
  have O31 := O29.wr W31 gb
  refine own_st st31 ?_
  show own_Ends _ _ _ _ _ _ _ T31 (mkF m 104 #[.val (.int p1), .val (.int p2), .unset, .unset, .unset, .unset, .unset, .unset, .unset] [(.ref b1)])
  refine own_st (fun _ kq => XS.dup X31.here hx rfl (hb hby at_104) rfl rfl kq) ?_
  show own_Ends _ _ _ _ _ _ _ T31 (mkF m 105 #[.val (.int p1), .val (.int p2), .unset, .unset, .unset, .unset, .unset, .unset, .unset] [(.ref b1), (.ref b1)])
  refine own_st (fun _ kq => XS.bipush X31.here hx rfl (hb hby at_105) kq) ?_
  show own_Ends _ _ _ _ _ _ _ T31 (mkF m 107 #[.val (.int p1), .val (.int p2), .unset, .unset, .unset, .unset, .unset, .unset, .unset] [(.int (15 : Int32)), (.ref b1), (.ref b1)])
  obtain ⟨T32, X32, e32, st32⟩ := getS2 X31 hx hZ hown (host := "") (Or.inl (hw _ (List.mem_of_getElem? (i := 34) rfl))) Via.refl e31 (S_15.ext O31.2) (g := (mkF m 107 #[.val (.int p1), .val (.int p2), .unset, .unset, .unset, .unset, .unset, .unset, .unset] [(.int (15 : Int32)), (.ref b1), (.ref b1)])) rfl (hb hby at_107)
  refine own_st st32 ?_
  show own_Ends _ _ _ _ _ _ _ T32 (mkF m 110 #[.val (.int p1), .val (.int p2), .unset, .unset, .unset, .unset, .unset, .unset, .unset] [(.ref r15), (.int (15 : Int32)), (.ref b1), (.ref b1)])
  obtain ⟨T33, h33, X33, e33, W33, V33', st33⟩ := own_fill X32 hx hZ e32 V31 Ov (Ins.self (E_15.ext O31.2)) (j := (15 : Int32)) 15 rfl (by simp) (by decide) (g := (mkF m 110 #[.val (.int p1), .val (.int p2), .unset, .unset, .unset, .unset, .unset, .unset, .unset] [(.ref r15), (.int (15 : Int32)), (.ref b1), (.ref b1)])) rfl rfl (hb hby at_110)
  have V33 : Arv Z h33 b1 k1 (.object "com/example/consistent_answers/consistentanswers/ontology/Datatype") (19 : Int32) [(.ref r0), (.ref r1), (.ref r2), (.ref r3), (.ref r4), (.ref r5), (.ref r6), (.ref r7), (.ref r8), (.ref r9), (.ref r10), (.ref r11), (.ref r12), (.ref r13), (.ref r14), (.ref r15), .null, .null, .null] .null := V33'
  have N33 := Fr.snoc X33 N31 gb
  have O33 := O31.wr W33 gb
  refine own_st st33 ?_
  show own_Ends _ _ _ _ _ _ _ T33 (mkF m 111 #[.val (.int p1), .val (.int p2), .unset, .unset, .unset, .unset, .unset, .unset, .unset] [(.ref b1)])
  refine own_st (fun _ kq => XS.dup X33.here hx rfl (hb hby at_111) rfl rfl kq) ?_
  show own_Ends _ _ _ _ _ _ _ T33 (mkF m 112 #[.val (.int p1), .val (.int p2), .unset, .unset, .unset, .unset, .unset, .unset, .unset] [(.ref b1), (.ref b1)])
  refine own_st (fun _ kq => XS.bipush X33.here hx rfl (hb hby at_112) kq) ?_
  show own_Ends _ _ _ _ _ _ _ T33 (mkF m 114 #[.val (.int p1), .val (.int p2), .unset, .unset, .unset, .unset, .unset, .unset, .unset] [(.int (16 : Int32)), (.ref b1), (.ref b1)])
  obtain ⟨T34, X34, e34, st34⟩ := getS2 X33 hx hZ hown (host := "") (Or.inl (hw _ (List.mem_of_getElem? (i := 36) rfl))) Via.refl e33 (S_16.ext O33.2) (g := (mkF m 114 #[.val (.int p1), .val (.int p2), .unset, .unset, .unset, .unset, .unset, .unset, .unset] [(.int (16 : Int32)), (.ref b1), (.ref b1)])) rfl (hb hby at_114)
  refine own_st st34 ?_
  show own_Ends _ _ _ _ _ _ _ T34 (mkF m 117 #[.val (.int p1), .val (.int p2), .unset, .unset, .unset, .unset, .unset, .unset, .unset] [(.ref r16), (.int (16 : Int32)), (.ref b1), (.ref b1)])
  obtain ⟨T35, h35, X35, e35, W35, V35', st35⟩ := own_fill X34 hx hZ e34 V33 Ov (Ins.self (E_16.ext O33.2)) (j := (16 : Int32)) 16 rfl (by simp) (by decide) (g := (mkF m 117 #[.val (.int p1), .val (.int p2), .unset, .unset, .unset, .unset, .unset, .unset, .unset] [(.ref r16), (.int (16 : Int32)), (.ref b1), (.ref b1)])) rfl rfl (hb hby at_117)
  have V35 : Arv Z h35 b1 k1 (.object "com/example/consistent_answers/consistentanswers/ontology/Datatype") (19 : Int32) [(.ref r0), (.ref r1), (.ref r2), (.ref r3), (.ref r4), (.ref r5), (.ref r6), (.ref r7), (.ref r8), (.ref r9), (.ref r10), (.ref r11), (.ref r12), (.ref r13), (.ref r14), (.ref r15), (.ref r16), .null, .null] .null := V35'
  have N35 := Fr.snoc X35 N33 gb
  have O35 := O33.wr W35 gb
  refine own_st st35 ?_
  show own_Ends _ _ _ _ _ _ _ T35 (mkF m 118 #[.val (.int p1), .val (.int p2), .unset, .unset, .unset, .unset, .unset, .unset, .unset] [(.ref b1)])
  refine own_st (fun _ kq => XS.dup X35.here hx rfl (hb hby at_118) rfl rfl kq) ?_
  show own_Ends _ _ _ _ _ _ _ T35 (mkF m 119 #[.val (.int p1), .val (.int p2), .unset, .unset, .unset, .unset, .unset, .unset, .unset] [(.ref b1), (.ref b1)])
  refine own_st (fun _ kq => XS.bipush X35.here hx rfl (hb hby at_119) kq) ?_
  show own_Ends _ _ _ _ _ _ _ T35 (mkF m 121 #[.val (.int p1), .val (.int p2), .unset, .unset, .unset, .unset, .unset, .unset, .unset] [(.int (17 : Int32)), (.ref b1), (.ref b1)])
  obtain ⟨T36, X36, e36, st36⟩ := getS2 X35 hx hZ hown (host := "") (Or.inl (hw _ (List.mem_of_getElem? (i := 38) rfl))) Via.refl e35 (S_17.ext O35.2) (g := (mkF m 121 #[.val (.int p1), .val (.int p2), .unset, .unset, .unset, .unset, .unset, .unset, .unset] [(.int (17 : Int32)), (.ref b1), (.ref b1)])) rfl (hb hby at_121)
  refine own_st st36 ?_
  show own_Ends _ _ _ _ _ _ _ T36 (mkF m 124 #[.val (.int p1), .val (.int p2), .unset, .unset, .unset, .unset, .unset, .unset, .unset] [(.ref r17), (.int (17 : Int32)), (.ref b1), (.ref b1)])
  obtain ⟨T37, h37, X37, e37, W37, V37', st37⟩ := own_fill X36 hx hZ e36 V35 Ov (Ins.self (E_17.ext O35.2)) (j := (17 : Int32)) 17 rfl (by simp) (by decide) (g := (mkF m 124 #[.val (.int p1), .val (.int p2), .unset, .unset, .unset, .unset, .unset, .unset, .unset] [(.ref r17), (.int (17 : Int32)), (.ref b1), (.ref b1)])) rfl rfl (hb hby at_124)
  have V37 : Arv Z h37 b1 k1 (.object "com/example/consistent_answers/consistentanswers/ontology/Datatype") (19 : Int32) [(.ref r0), (.ref r1), (.ref r2), (.ref r3), (.ref r4), (.ref r5), (.ref r6), (.ref r7), (.ref r8), (.ref r9), (.ref r10), (.ref r11), (.ref r12), (.ref r13), (.ref r14), (.ref r15), (.ref r16), (.ref r17), .null] .null := V37'
  have N37 := Fr.snoc X37 N35 gb
  have O37 := O35.wr W37 gb
  refine own_st st37 ?_
  show own_Ends _ _ _ _ _ _ _ T37 (mkF m 125 #[.val (.int p1), .val (.int p2), .unset, .unset, .unset, .unset, .unset, .unset, .unset] [(.ref b1)])
  refine own_st (fun _ kq => XS.dup X37.here hx rfl (hb hby at_125) rfl rfl kq) ?_
  show own_Ends _ _ _ _ _ _ _ T37 (mkF m 126 #[.val (.int p1), .val (.int p2), .unset, .unset, .unset, .unset, .unset, .unset, .unset] [(.ref b1), (.ref b1)])
  refine own_st (fun _ kq => XS.bipush X37.here hx rfl (hb hby at_126) kq) ?_
  show own_Ends _ _ _ _ _ _ _ T37 (mkF m 128 #[.val (.int p1), .val (.int p2), .unset, .unset, .unset, .unset, .unset, .unset, .unset] [(.int (18 : Int32)), (.ref b1), (.ref b1)])
  obtain ⟨T38, X38, e38, st38⟩ := getS2 X37 hx hZ hown (host := "") (Or.inl (hw _ (List.mem_of_getElem? (i := 40) rfl))) Via.refl e37 (S_18.ext O37.2) (g := (mkF m 128 #[.val (.int p1), .val (.int p2), .unset, .unset, .unset, .unset, .unset, .unset, .unset] [(.int (18 : Int32)), (.ref b1), (.ref b1)])) rfl (hb hby at_128)
  refine own_st st38 ?_
  show own_Ends _ _ _ _ _ _ _ T38 (mkF m 131 #[.val (.int p1), .val (.int p2), .unset, .unset, .unset, .unset, .unset, .unset, .unset] [(.ref r18), (.int (18 : Int32)), (.ref b1), (.ref b1)])
  obtain ⟨T39, h39, X39, e39, W39, V39', st39⟩ := own_fill X38 hx hZ e38 V37 Ov (Ins.self (E_18.ext O37.2)) (j := (18 : Int32)) 18 rfl (by simp) (by decide) (g := (mkF m 131 #[.val (.int p1), .val (.int p2), .unset, .unset, .unset, .unset, .unset, .unset, .unset] [(.ref r18), (.int (18 : Int32)), (.ref b1), (.ref b1)])) rfl rfl (hb hby at_131)
  have V39 : Arv Z h39 b1 k1 (.object "com/example/consistent_answers/consistentanswers/ontology/Datatype") (19 : Int32) [(.ref r0), (.ref r1), (.ref r2), (.ref r3), (.ref r4), (.ref r5), (.ref r6), (.ref r7), (.ref r8), (.ref r9), (.ref r10), (.ref r11), (.ref r12), (.ref r13), (.ref r14), (.ref r15), (.ref r16), (.ref r17), (.ref r18)] .null := V39'
  have N39 := Fr.snoc X39 N37 gb
  have O39 := O37.wr W39 gb
  refine own_st st39 ?_
  show own_Ends _ _ _ _ _ _ _ T39 (mkF m 132 #[.val (.int p1), .val (.int p2), .unset, .unset, .unset, .unset, .unset, .unset, .unset] [(.ref b1)])
  refine own_st (fun _ kq => XS.astoreN X39.here hx rfl (hb hby at_132) rfl rfl (l' := #[.val (.int p1), .val (.int p2), .val (.ref b1), .unset, .unset, .unset, .unset, .unset, .unset]) rfl kq) ?_
  show own_Ends _ _ _ _ _ _ _ T39 (mkF m 133 #[.val (.int p1), .val (.int p2), .val (.ref b1), .unset, .unset, .unset, .unset, .unset, .unset] [])
  refine own_st (fun _ kq => XS.iloadN X39.here hx rfl (hb hby at_133) rfl kq) ?_
  show own_Ends _ _ _ _ _ _ _ T39 (mkF m 134 #[.val (.int p1), .val (.int p2), .val (.ref b1), .unset, .unset, .unset, .unset, .unset, .unset] [(.int p1)])
  refine own_st (X39.ldcInt hx hown (mvT hZ (hw _ (List.mem_of_getElem? (i := 42) rfl))) (g := (mkF m 134 #[.val (.int p1), .val (.int p2), .val (.ref b1), .unset, .unset, .unset, .unset, .unset, .unset] [(.int p1)])) rfl (hb hby at_134)) ?_
  show own_Ends _ _ _ _ _ _ _ T39 (mkF m 136 #[.val (.int p1), .val (.int p2), .val (.ref b1), .unset, .unset, .unset, .unset, .unset, .unset] [(.int (2147483647 : Int32)), (.int p1)])
  refine own_st (fun _ kq => XS.iand X39.here hx rfl (hb hby at_136) rfl kq) ?_
  show own_Ends _ _ _ _ _ _ _ T39 (mkF m 137 #[.val (.int p1), .val (.int p2), .val (.ref b1), .unset, .unset, .unset, .unset, .unset, .unset] [(.int (p1 &&& (2147483647 : Int32)))])
  refine own_st (fun _ kq => XS.bipush X39.here hx rfl (hb hby at_137) kq) ?_
  show own_Ends _ _ _ _ _ _ _ T39 (mkF m 139 #[.val (.int p1), .val (.int p2), .val (.ref b1), .unset, .unset, .unset, .unset, .unset, .unset] [(.int (19 : Int32)), (.int (p1 &&& (2147483647 : Int32)))])
  refine own_st (fun _ kq => iremM (g := (mkF m 139 #[.val (.int p1), .val (.int p2), .val (.ref b1), .unset, .unset, .unset, .unset, .unset, .unset] [(.int (19 : Int32)), (.int (p1 &&& (2147483647 : Int32)))])) X39 hx rfl (hb hby at_139) rfl (by decide) kq) ?_
  show own_Ends _ _ _ _ _ _ _ T39 (mkF m 140 #[.val (.int p1), .val (.int p2), .val (.ref b1), .unset, .unset, .unset, .unset, .unset, .unset] [(.int ((p1 &&& (2147483647 : Int32)) % (19 : Int32)))])
  obtain ⟨ia, hia, eia⟩ := own_idx p1
  rw [eia]
  show own_Ends _ _ _ _ _ _ _ T39 (mkF m 140 #[.val (.int p1), .val (.int p2), .val (.ref b1), .unset, .unset, .unset, .unset, .unset, .unset] [(.int (Int32.ofNat ia))])
  refine own_st (fun _ kq => XS.istoreN X39.here hx rfl (hb hby at_140) rfl (l' := #[.val (.int p1), .val (.int p2), .val (.ref b1), .val (.int (Int32.ofNat ia)), .unset, .unset, .unset, .unset, .unset]) rfl kq) ?_
  show own_Ends _ _ _ _ _ _ _ T39 (mkF m 141 #[.val (.int p1), .val (.int p2), .val (.ref b1), .val (.int (Int32.ofNat ia)), .unset, .unset, .unset, .unset, .unset] [])
  refine own_st (fun _ kq => XS.iloadN X39.here hx rfl (hb hby at_141) rfl kq) ?_
  show own_Ends _ _ _ _ _ _ _ T39 (mkF m 142 #[.val (.int p1), .val (.int p2), .val (.ref b1), .val (.int (Int32.ofNat ia)), .unset, .unset, .unset, .unset, .unset] [(.int p2)])
  refine own_st (X39.ldcInt hx hown (mvT hZ (hw _ (List.mem_of_getElem? (i := 42) rfl))) (g := (mkF m 142 #[.val (.int p1), .val (.int p2), .val (.ref b1), .val (.int (Int32.ofNat ia)), .unset, .unset, .unset, .unset, .unset] [(.int p2)])) rfl (hb hby at_142)) ?_
  show own_Ends _ _ _ _ _ _ _ T39 (mkF m 144 #[.val (.int p1), .val (.int p2), .val (.ref b1), .val (.int (Int32.ofNat ia)), .unset, .unset, .unset, .unset, .unset] [(.int (2147483647 : Int32)), (.int p2)])
  refine own_st (fun _ kq => XS.iand X39.here hx rfl (hb hby at_144) rfl kq) ?_
  show own_Ends _ _ _ _ _ _ _ T39 (mkF m 145 #[.val (.int p1), .val (.int p2), .val (.ref b1), .val (.int (Int32.ofNat ia)), .unset, .unset, .unset, .unset, .unset] [(.int (p2 &&& (2147483647 : Int32)))])
  refine own_st (fun _ kq => XS.bipush X39.here hx rfl (hb hby at_145) kq) ?_
  show own_Ends _ _ _ _ _ _ _ T39 (mkF m 147 #[.val (.int p1), .val (.int p2), .val (.ref b1), .val (.int (Int32.ofNat ia)), .unset, .unset, .unset, .unset, .unset] [(.int (19 : Int32)), (.int (p2 &&& (2147483647 : Int32)))])
  refine own_st (fun _ kq => iremM (g := (mkF m 147 #[.val (.int p1), .val (.int p2), .val (.ref b1), .val (.int (Int32.ofNat ia)), .unset, .unset, .unset, .unset, .unset] [(.int (19 : Int32)), (.int (p2 &&& (2147483647 : Int32)))])) X39 hx rfl (hb hby at_147) rfl (by decide) kq) ?_
  show own_Ends _ _ _ _ _ _ _ T39 (mkF m 148 #[.val (.int p1), .val (.int p2), .val (.ref b1), .val (.int (Int32.ofNat ia)), .unset, .unset, .unset, .unset, .unset] [(.int ((p2 &&& (2147483647 : Int32)) % (19 : Int32)))])
  obtain ⟨ib, hib, eib⟩ := own_idx p2
  rw [eib]
  show own_Ends _ _ _ _ _ _ _ T39 (mkF m 148 #[.val (.int p1), .val (.int p2), .val (.ref b1), .val (.int (Int32.ofNat ia)), .unset, .unset, .unset, .unset, .unset] [(.int (Int32.ofNat ib))])
  refine own_st (fun _ kq => XS.istore X39.here hx rfl (hb hby at_148) rfl (l' := #[.val (.int p1), .val (.int p2), .val (.ref b1), .val (.int (Int32.ofNat ia)), .val (.int (Int32.ofNat ib)), .unset, .unset, .unset, .unset]) rfl kq) ?_
  show own_Ends _ _ _ _ _ _ _ T39 (mkF m 150 #[.val (.int p1), .val (.int p2), .val (.ref b1), .val (.int (Int32.ofNat ia)), .val (.int (Int32.ofNat ib)), .unset, .unset, .unset, .unset] [])
  refine own_st (fun _ kq => XS.aloadN X39.here hx rfl (hb hby at_150) rfl rfl kq) ?_
  show own_Ends _ _ _ _ _ _ _ T39 (mkF m 151 #[.val (.int p1), .val (.int p2), .val (.ref b1), .val (.int (Int32.ofNat ia)), .val (.int (Int32.ofNat ib)), .unset, .unset, .unset, .unset] [(.ref b1)])
  refine own_st (fun _ kq => XS.iloadN X39.here hx rfl (hb hby at_151) rfl kq) ?_
  show own_Ends _ _ _ _ _ _ _ T39 (mkF m 152 #[.val (.int p1), .val (.int p2), .val (.ref b1), .val (.int (Int32.ofNat ia)), .val (.int (Int32.ofNat ib)), .unset, .unset, .unset, .unset] [(.int (Int32.ofNat ia)), (.ref b1)])
  obtain ⟨LL, XL, NL⟩ : ∃ LL, Stand p l e room_1 s m #[(.int p1), (.int p2)] below meth c T39 LL (0 + 1) (0 + 19) ∧ Fr n0 LL := ⟨_, X39, N39⟩
  obtain ⟨cl, Ar, -, Sz, Mz, Hv, -⟩ := V39
  obtain ⟨A, hA⟩ : ∃ A, A = own_A r0 r1 r2 r3 r4 r5 r6 r7 r8 r9 r10 r11 r12 r13 r14 r15 r16 r17 r18 := ⟨_, rfl⟩
  have HG : own_H Z A := by rw [hA]; exact own_all G
  obtain ⟨wv, hwv⟩ : ∃ z, own_val 19 ia ib = z := ⟨_, rfl⟩
  obtain ⟨ca, hca⟩ : ∃ z, own_ch (Int32.ofNat ia) = z := ⟨_, rfl⟩
  obtain ⟨cb, hcb⟩ : ∃ z, own_ch (Int32.ofNat ib) = z := ⟨_, rfl⟩
  obtain ⟨da, hda⟩ : ∃ z, own_dp (Int32.ofNat ia) = z := ⟨_, rfl⟩
  obtain ⟨db, hdb⟩ : ∃ z, own_dp (Int32.ofNat ib) = z := ⟨_, rfl⟩
  have hinia := inb_of (j := (Int32.ofNat ia)) Sz (own_neg ia hia)
  have hatia := Hv.at hinia (show _ = Value.ref (A ia) by rw [own_tn ia hia, hA]; exact own_get ia hia)
  refine own_st (fun _ kq => XL.aaload hx (j := (Int32.ofNat ia)) (v := (.ref (A ia))) (by rw [e39]; exact Ar.1) (State.isArrayOf_alike hZ.alike Ar.2.1) rfl Ar.2.2 hinia hatia (g := (mkF m 152 #[.val (.int p1), .val (.int p2), .val (.ref b1), .val (.int (Int32.ofNat ia)), .val (.int (Int32.ofNat ib)), .unset, .unset, .unset, .unset] [(.int (Int32.ofNat ia)), (.ref b1)])) rfl rfl (hb hby at_152) _ kq) ?_
  show own_Ends _ _ _ _ _ _ _ T39 (mkF m 153 #[.val (.int p1), .val (.int p2), .val (.ref b1), .val (.int (Int32.ofNat ia)), .val (.int (Int32.ofNat ib)), .unset, .unset, .unset, .unset] [(.ref (A ia))])
  refine own_st (fun _ kq => XS.aloadN XL.here hx rfl (hb hby at_153) rfl rfl kq) ?_
  show own_Ends _ _ _ _ _ _ _ T39 (mkF m 154 #[.val (.int p1), .val (.int p2), .val (.ref b1), .val (.int (Int32.ofNat ia)), .val (.int (Int32.ofNat ib)), .unset, .unset, .unset, .unset] [(.ref b1), (.ref (A ia))])
  refine own_st (fun _ kq => XS.iload XL.here hx rfl (hb hby at_154) rfl kq) ?_
  show own_Ends _ _ _ _ _ _ _ T39 (mkF m 156 #[.val (.int p1), .val (.int p2), .val (.ref b1), .val (.int (Int32.ofNat ia)), .val (.int (Int32.ofNat ib)), .unset, .unset, .unset, .unset] [(.int (Int32.ofNat ib)), (.ref b1), (.ref (A ia))])
  have hinib := inb_of (j := (Int32.ofNat ib)) Sz (own_neg ib hib)
  have hatib := Hv.at hinib (show _ = Value.ref (A ib) by rw [own_tn ib hib, hA]; exact own_get ib hib)
  refine own_st (fun _ kq => XL.aaload hx (j := (Int32.ofNat ib)) (v := (.ref (A ib))) (by rw [e39]; exact Ar.1) (State.isArrayOf_alike hZ.alike Ar.2.1) rfl Ar.2.2 hinib hatib (g := (mkF m 156 #[.val (.int p1), .val (.int p2), .val (.ref b1), .val (.int (Int32.ofNat ia)), .val (.int (Int32.ofNat ib)), .unset, .unset, .unset, .unset] [(.int (Int32.ofNat ib)), (.ref b1), (.ref (A ia))])) rfl rfl (hb hby at_156) _ kq) ?_
  show own_Ends _ _ _ _ _ _ _ T39 (mkF m 157 #[.val (.int p1), .val (.int p2), .val (.ref b1), .val (.int (Int32.ofNat ia)), .val (.int (Int32.ofNat ib)), .unset, .unset, .unset, .unset] [(.ref (A ib)), (.ref (A ia))])
  obtain ⟨cq40, kq40, q40a, q40b, q40c⟩ := isOf hZ e39 ((HG.1 ia hia).ext O39.2)
  obtain ⟨_, _, ⟨T40, L40, k40, n40⟩, -, X40, ⟨Lc40, hQ40, l40, y40, z40⟩, st40⟩ := XL.virtualBack hx (y := (⟨"com/example/consistent_answers/consistentanswers/ontology/Datatype", "isWithin", "(Lcom/example/consistent_answers/consistentanswers/ontology/Datatype;)Z"⟩ : MethodName)) (z := (⟨"com/example/consistent_answers/consistentanswers/ontology/Datatype", "isWithin", "(Lcom/example/consistent_answers/consistentanswers/ontology/Datatype;)Z"⟩ : MethodName)) hown (mvT hZ (hw _ (List.mem_of_getElem? (i := 43) rfl))) (mvT hZ (hw _ (List.mem_of_getElem? (i := 44) rfl))) (notFace_of_selects (args := #[]) (mvT hZ (hw _ (List.mem_of_getElem? (i := 46) rfl)))) (mvT hZ (hw _ (List.mem_of_getElem? (i := 46) rfl))) (mvT hZ (hw _ (List.mem_of_getElem? (i := 45) rfl))) (by decide) (backOf (W := 0) (rm_within l Z a0 hw [] A ia ib wv h39 n0 O39 HG hia hib hwv) hZ (hw _ (List.mem_of_getElem? (i := 47) rfl)) (hw _ (List.mem_of_getElem? (i := 3) rfl)) (by decide) (by decide)) q40a q40c (g := (mkF m 157 #[.val (.int p1), .val (.int p2), .val (.ref b1), .val (.int (Int32.ofNat ia)), .val (.int (Int32.ofNat ib)), .unset, .unset, .unset, .unset] [(.ref (A ib)), (.ref (A ia))])) rfl (by rw [hml]; rfl) (Steps.refl _) (argsL := [(.ref (A ib))]) (rest := []) (lenOf pd_0 rfl) rfl (by show 2 * 0 + _ ≤ _; exact Nat.le_of_eq rfl) (hb hby at_157) (fun _ _ => ⟨rfl, e39, (by decide : 1 + 0 ≤ _), (by decide : 19 + 0 ≤ _)⟩)
  dsimp only [Pt.U, Pt.locs, Pt.cells, Pt.slots] at X40 l40 y40 z40 st40 hQ40
  subst l40 y40 z40
  obtain ⟨rfl, N40q, e40⟩ := hQ40
  have N40 := Fr.app NL N40q
  refine own_tr st40 ?_
  show own_Ends _ _ _ _ _ _ _ T40 (mkF m 160 #[.val (.int p1), .val (.int p2), .val (.ref b1), .val (.int (Int32.ofNat ia)), .val (.int (Int32.ofNat ib)), .unset, .unset, .unset, .unset] [(.int wv)])
  refine own_st (fun _ kq => XS.istore X40.here hx rfl (hb hby at_160) rfl (l' := #[.val (.int p1), .val (.int p2), .val (.ref b1), .val (.int (Int32.ofNat ia)), .val (.int (Int32.ofNat ib)), .val (.int wv), .unset, .unset, .unset]) rfl kq) ?_
  show own_Ends _ _ _ _ _ _ _ T40 (mkF m 162 #[.val (.int p1), .val (.int p2), .val (.ref b1), .val (.int (Int32.ofNat ia)), .val (.int (Int32.ofNat ib)), .val (.int wv), .unset, .unset, .unset] [])
  refine own_st (fun _ kq => XS.iloadN X40.here hx rfl (hb hby at_162) rfl kq) ?_
  show own_Ends _ _ _ _ _ _ _ T40 (mkF m 163 #[.val (.int p1), .val (.int p2), .val (.ref b1), .val (.int (Int32.ofNat ia)), .val (.int (Int32.ofNat ib)), .val (.int wv), .unset, .unset, .unset] [(.int (Int32.ofNat ia))])
  obtain ⟨_, _, ⟨T41, L41, k41, n41⟩, -, X41, ⟨Lc41, hQ41, l41, y41, z41⟩, st41⟩ := Jvm.LawKit.callS X40 hx (y := (⟨"com/example/consistent_answers/consistentanswers/ontology/DatatypeIsWithinPinLaw", "chain", "(I)I"⟩ : MethodName)) hown (mvT hZ (hw _ (List.mem_of_getElem? (i := 50) rfl))) (mvT hZ (hw _ (List.mem_of_getElem? (i := 51) rfl))) (mvT hZ (hw _ (List.mem_of_getElem? (i := 52) rfl))) (mvT hZ (hw _ (List.mem_of_getElem? (i := 53) rfl))) (by decide) (backOf (W := 0) (rm_chain l Z a0 hw [] (Int32.ofNat ia) ca h39 n0 O39 hca) hZ (hw _ (List.mem_of_getElem? (i := 53) rfl)) (hw _ (List.mem_of_getElem? (i := 52) rfl)) (by decide) (by decide)) (g := (mkF m 163 #[.val (.int p1), .val (.int p2), .val (.ref b1), .val (.int (Int32.ofNat ia)), .val (.int (Int32.ofNat ib)), .val (.int wv), .unset, .unset, .unset] [(.int (Int32.ofNat ia))])) rfl (by rw [hml]; rfl) (argsL := [(.int (Int32.ofNat ia))]) (rest := []) (lenOf pd_1 rfl) rfl (by show 2 * 0 + _ ≤ _; exact Nat.le_of_eq rfl) (hb hby at_163) (fun _ _ => ⟨rfl, e40, (by decide : 1 + 0 ≤ _), (by decide : 19 + 0 ≤ _)⟩)
  dsimp only [Pt.U, Pt.locs, Pt.cells, Pt.slots] at X41 l41 y41 z41 st41 hQ41
  subst l41 y41 z41
  obtain ⟨rfl, N41q, e41⟩ := hQ41
  have N41 := Fr.app N40 N41q
  refine own_st st41 ?_
  show own_Ends _ _ _ _ _ _ _ T41 (mkF m 166 #[.val (.int p1), .val (.int p2), .val (.ref b1), .val (.int (Int32.ofNat ia)), .val (.int (Int32.ofNat ib)), .val (.int wv), .unset, .unset, .unset] [(.int ca)])
  refine own_st (fun _ kq => XS.istore X41.here hx rfl (hb hby at_166) rfl (l' := #[.val (.int p1), .val (.int p2), .val (.ref b1), .val (.int (Int32.ofNat ia)), .val (.int (Int32.ofNat ib)), .val (.int wv), .val (.int ca), .unset, .unset]) rfl kq) ?_
  show own_Ends _ _ _ _ _ _ _ T41 (mkF m 168 #[.val (.int p1), .val (.int p2), .val (.ref b1), .val (.int (Int32.ofNat ia)), .val (.int (Int32.ofNat ib)), .val (.int wv), .val (.int ca), .unset, .unset] [])
  refine own_st (fun _ kq => XS.iload X41.here hx rfl (hb hby at_168) rfl kq) ?_
  show own_Ends _ _ _ _ _ _ _ T41 (mkF m 170 #[.val (.int p1), .val (.int p2), .val (.ref b1), .val (.int (Int32.ofNat ia)), .val (.int (Int32.ofNat ib)), .val (.int wv), .val (.int ca), .unset, .unset] [(.int (Int32.ofNat ib))])
  obtain ⟨_, _, ⟨T42, L42, k42, n42⟩, -, X42, ⟨Lc42, hQ42, l42, y42, z42⟩, st42⟩ := Jvm.LawKit.callS X41 hx (y := (⟨"com/example/consistent_answers/consistentanswers/ontology/DatatypeIsWithinPinLaw", "chain", "(I)I"⟩ : MethodName)) hown (mvT hZ (hw _ (List.mem_of_getElem? (i := 50) rfl))) (mvT hZ (hw _ (List.mem_of_getElem? (i := 51) rfl))) (mvT hZ (hw _ (List.mem_of_getElem? (i := 52) rfl))) (mvT hZ (hw _ (List.mem_of_getElem? (i := 53) rfl))) (by decide) (backOf (W := 0) (rm_chain l Z a0 hw [] (Int32.ofNat ib) cb h39 n0 O39 hcb) hZ (hw _ (List.mem_of_getElem? (i := 53) rfl)) (hw _ (List.mem_of_getElem? (i := 52) rfl)) (by decide) (by decide)) (g := (mkF m 170 #[.val (.int p1), .val (.int p2), .val (.ref b1), .val (.int (Int32.ofNat ia)), .val (.int (Int32.ofNat ib)), .val (.int wv), .val (.int ca), .unset, .unset] [(.int (Int32.ofNat ib))])) rfl (by rw [hml]; rfl) (argsL := [(.int (Int32.ofNat ib))]) (rest := []) (lenOf pd_1 rfl) rfl (by show 2 * 0 + _ ≤ _; exact Nat.le_of_eq rfl) (hb hby at_170) (fun _ _ => ⟨rfl, e41, (by decide : 1 + 0 ≤ _), (by decide : 19 + 0 ≤ _)⟩)
  dsimp only [Pt.U, Pt.locs, Pt.cells, Pt.slots] at X42 l42 y42 z42 st42 hQ42
  subst l42 y42 z42
  obtain ⟨rfl, N42q, e42⟩ := hQ42
  have N42 := Fr.app N41 N42q
  refine own_st st42 ?_
  show own_Ends _ _ _ _ _ _ _ T42 (mkF m 173 #[.val (.int p1), .val (.int p2), .val (.ref b1), .val (.int (Int32.ofNat ia)), .val (.int (Int32.ofNat ib)), .val (.int wv), .val (.int ca), .unset, .unset] [(.int cb)])
  refine own_st (fun _ kq => XS.istore X42.here hx rfl (hb hby at_173) rfl (l' := #[.val (.int p1), .val (.int p2), .val (.ref b1), .val (.int (Int32.ofNat ia)), .val (.int (Int32.ofNat ib)), .val (.int wv), .val (.int ca), .val (.int cb), .unset]) rfl kq) ?_
  show own_Ends _ _ _ _ _ _ _ T42 (mkF m 175 #[.val (.int p1), .val (.int p2), .val (.ref b1), .val (.int (Int32.ofNat ia)), .val (.int (Int32.ofNat ib)), .val (.int wv), .val (.int ca), .val (.int cb), .unset] [])
  refine own_st (fun _ kq => XS.iload X42.here hx rfl (hb hby at_175) rfl kq) ?_
  show own_Ends _ _ _ _ _ _ _ T42 (mkF m 177 #[.val (.int p1), .val (.int p2), .val (.ref b1), .val (.int (Int32.ofNat ia)), .val (.int (Int32.ofNat ib)), .val (.int wv), .val (.int ca), .val (.int cb), .unset] [(.int (Int32.ofNat ib))])
  by_cases hc177 : (Int32.ofNat ib) = (0 : Int32)
  · skip
    refine own_st (fun _ kq => XS.ifYes X42.here hx rfl (pc0 := 177) (pc' := 204) rfl (hb hby at_177) rfl ((if0 _ _).trans (teq hc177).1) (by decide) (by decide) kq) ?_
    show own_Ends _ _ _ _ _ _ _ T42 (mkF m 204 #[.val (.int p1), .val (.int p2), .val (.ref b1), .val (.int (Int32.ofNat ia)), .val (.int (Int32.ofNat ib)), .val (.int wv), .val (.int ca), .val (.int cb), .unset] [])
    refine own_st (fun _ kq => XS.iconst X42.here hx rfl (hb hby at_204) kq) ?_
    show own_Ends _ _ _ _ _ _ _ T42 (mkF m 205 #[.val (.int p1), .val (.int p2), .val (.ref b1), .val (.int (Int32.ofNat ia)), .val (.int (Int32.ofNat ib)), .val (.int wv), .val (.int ca), .val (.int cb), .unset] [(.int (1 : Int32))])
    refine own_st (fun _ kq => XS.goto X42.here hx rfl (pc0 := 205) (pc' := 209) rfl (hb hby at_205) (by decide) (by decide) kq) ?_
    show own_Ends _ _ _ _ _ _ _ T42 (mkF m 209 #[.val (.int p1), .val (.int p2), .val (.ref b1), .val (.int (Int32.ofNat ia)), .val (.int (Int32.ofNat ib)), .val (.int wv), .val (.int ca), .val (.int cb), .unset] [(.int (1 : Int32))])
    refine own_st (fun _ kq => XS.istore X42.here hx rfl (hb hby at_209) rfl (l' := #[.val (.int p1), .val (.int p2), .val (.ref b1), .val (.int (Int32.ofNat ia)), .val (.int (Int32.ofNat ib)), .val (.int wv), .val (.int ca), .val (.int cb), .val (.int (1 : Int32))]) rfl kq) ?_
    show own_Ends _ _ _ _ _ _ _ T42 (mkF m 211 #[.val (.int p1), .val (.int p2), .val (.ref b1), .val (.int (Int32.ofNat ia)), .val (.int (Int32.ofNat ib)), .val (.int wv), .val (.int ca), .val (.int cb), .val (.int (1 : Int32))] [])
    refine own_st (fun _ kq => XS.iload X42.here hx rfl (hb hby at_211) rfl kq) ?_
    show own_Ends _ _ _ _ _ _ _ T42 (mkF m 213 #[.val (.int p1), .val (.int p2), .val (.ref b1), .val (.int (Int32.ofNat ia)), .val (.int (Int32.ofNat ib)), .val (.int wv), .val (.int ca), .val (.int cb), .val (.int (1 : Int32))] [(.int wv)])
    refine own_st (fun _ kq => XS.iload X42.here hx rfl (hb hby at_213) rfl kq) ?_
    show own_Ends _ _ _ _ _ _ _ T42 (mkF m 215 #[.val (.int p1), .val (.int p2), .val (.ref b1), .val (.int (Int32.ofNat ia)), .val (.int (Int32.ofNat ib)), .val (.int wv), .val (.int ca), .val (.int cb), .val (.int (1 : Int32))] [(.int (1 : Int32)), (.int wv)])
    have hm : wv = (1 : Int32) := by
      have q := own_master ia hia ib hib
      rw [hwv, hca, hcb, hda, hdb] at q
      rw [if_pos hc177] at q
      exact q
    show own_Ends _ _ _ _ _ _ _ T42 (mkF m 215 #[.val (.int p1), .val (.int p2), .val (.ref b1), .val (.int (Int32.ofNat ia)), .val (.int (Int32.ofNat ib)), .val (.int wv), .val (.int ca), .val (.int cb), .val (.int (1 : Int32))] [(.int (1 : Int32)), (.int wv)])
    refine own_st (fun _ kq => XS.icmpNo X42.here hx rfl (hb hby at_215) rfl (teq hm).2 kq) ?_
    show own_Ends _ _ _ _ _ _ _ T42 (mkF m 218 #[.val (.int p1), .val (.int p2), .val (.ref b1), .val (.int (Int32.ofNat ia)), .val (.int (Int32.ofNat ib)), .val (.int wv), .val (.int ca), .val (.int cb), .val (.int (1 : Int32))] [])
    refine own_st (fun _ kq => XS.iconst X42.here hx rfl (hb hby at_218) kq) ?_
    show own_Ends _ _ _ _ _ _ _ T42 (mkF m 219 #[.val (.int p1), .val (.int p2), .val (.ref b1), .val (.int (Int32.ofNat ia)), .val (.int (Int32.ofNat ib)), .val (.int wv), .val (.int ca), .val (.int cb), .val (.int (1 : Int32))] [(.int (1 : Int32))])
    refine own_st (fun _ kq => XS.goto X42.here hx rfl (pc0 := 219) (pc' := 223) rfl (hb hby at_219) (by decide) (by decide) kq) ?_
    show own_Ends _ _ _ _ _ _ _ T42 (mkF m 223 #[.val (.int p1), .val (.int p2), .val (.ref b1), .val (.int (Int32.ofNat ia)), .val (.int (Int32.ofNat ib)), .val (.int wv), .val (.int ca), .val (.int cb), .val (.int (1 : Int32))] [(.int (1 : Int32))])
    refine own_retN X42 hx (t := .boolean) Bd.returns (by simp) (hb hby at_223) hlk (by decide) (by decide) (w := (1 : Int32)) (by decide) ?_
    show Q_rm_law Z p1 p2 r0 r1 r2 r3 r4 r5 r6 r7 r8 r9 r10 r11 r12 r13 r14 r15 r16 r17 r18 h0 n0 _ T42.heap _
    rw [e42]
    exact ⟨rfl, N42⟩
  · skip
    refine own_st (fun _ kq => XS.ifNo X42.here hx rfl (hb hby at_177) rfl ((if0 _ _).trans (feq hc177).1) kq) ?_
    show own_Ends _ _ _ _ _ _ _ T42 (mkF m 180 #[.val (.int p1), .val (.int p2), .val (.ref b1), .val (.int (Int32.ofNat ia)), .val (.int (Int32.ofNat ib)), .val (.int wv), .val (.int ca), .val (.int cb), .unset] [])
    refine own_st (fun _ kq => XS.iload X42.here hx rfl (hb hby at_180) rfl kq) ?_
    show own_Ends _ _ _ _ _ _ _ T42 (mkF m 182 #[.val (.int p1), .val (.int p2), .val (.ref b1), .val (.int (Int32.ofNat ia)), .val (.int (Int32.ofNat ib)), .val (.int wv), .val (.int ca), .val (.int cb), .unset] [(.int ca)])
    refine own_st (fun _ kq => XS.iload X42.here hx rfl (hb hby at_182) rfl kq) ?_
    show own_Ends _ _ _ _ _ _ _ T42 (mkF m 184 #[.val (.int p1), .val (.int p2), .val (.ref b1), .val (.int (Int32.ofNat ia)), .val (.int (Int32.ofNat ib)), .val (.int wv), .val (.int ca), .val (.int cb), .unset] [(.int cb), (.int ca)])
    by_cases hc184 : ca = cb
    · skip
      refine own_st (fun _ kq => XS.icmpNo X42.here hx rfl (hb hby at_184) rfl (teq hc184).2 kq) ?_
      show own_Ends _ _ _ _ _ _ _ T42 (mkF m 187 #[.val (.int p1), .val (.int p2), .val (.ref b1), .val (.int (Int32.ofNat ia)), .val (.int (Int32.ofNat ib)), .val (.int wv), .val (.int ca), .val (.int cb), .unset] [])
      refine own_st (fun _ kq => XS.iload X42.here hx rfl (hb hby at_187) rfl kq) ?_
      show own_Ends _ _ _ _ _ _ _ T42 (mkF m 189 #[.val (.int p1), .val (.int p2), .val (.ref b1), .val (.int (Int32.ofNat ia)), .val (.int (Int32.ofNat ib)), .val (.int wv), .val (.int ca), .val (.int cb), .unset] [(.int ca)])
      by_cases hc189 : ca = (0 : Int32)
      · skip
        refine own_st (fun _ kq => XS.ifYes X42.here hx rfl (pc0 := 189) (pc' := 208) rfl (hb hby at_189) rfl ((if0 _ _).trans (teq hc189).1) (by decide) (by decide) kq) ?_
        show own_Ends _ _ _ _ _ _ _ T42 (mkF m 208 #[.val (.int p1), .val (.int p2), .val (.ref b1), .val (.int (Int32.ofNat ia)), .val (.int (Int32.ofNat ib)), .val (.int wv), .val (.int ca), .val (.int cb), .unset] [])
        refine own_st (fun _ kq => XS.iconst X42.here hx rfl (hb hby at_208) kq) ?_
        show own_Ends _ _ _ _ _ _ _ T42 (mkF m 209 #[.val (.int p1), .val (.int p2), .val (.ref b1), .val (.int (Int32.ofNat ia)), .val (.int (Int32.ofNat ib)), .val (.int wv), .val (.int ca), .val (.int cb), .unset] [(.int (0 : Int32))])
        refine own_st (fun _ kq => XS.istore X42.here hx rfl (hb hby at_209) rfl (l' := #[.val (.int p1), .val (.int p2), .val (.ref b1), .val (.int (Int32.ofNat ia)), .val (.int (Int32.ofNat ib)), .val (.int wv), .val (.int ca), .val (.int cb), .val (.int (0 : Int32))]) rfl kq) ?_
        show own_Ends _ _ _ _ _ _ _ T42 (mkF m 211 #[.val (.int p1), .val (.int p2), .val (.ref b1), .val (.int (Int32.ofNat ia)), .val (.int (Int32.ofNat ib)), .val (.int wv), .val (.int ca), .val (.int cb), .val (.int (0 : Int32))] [])
        refine own_st (fun _ kq => XS.iload X42.here hx rfl (hb hby at_211) rfl kq) ?_
        show own_Ends _ _ _ _ _ _ _ T42 (mkF m 213 #[.val (.int p1), .val (.int p2), .val (.ref b1), .val (.int (Int32.ofNat ia)), .val (.int (Int32.ofNat ib)), .val (.int wv), .val (.int ca), .val (.int cb), .val (.int (0 : Int32))] [(.int wv)])
        refine own_st (fun _ kq => XS.iload X42.here hx rfl (hb hby at_213) rfl kq) ?_
        show own_Ends _ _ _ _ _ _ _ T42 (mkF m 215 #[.val (.int p1), .val (.int p2), .val (.ref b1), .val (.int (Int32.ofNat ia)), .val (.int (Int32.ofNat ib)), .val (.int wv), .val (.int ca), .val (.int cb), .val (.int (0 : Int32))] [(.int (0 : Int32)), (.int wv)])
        have hm : wv = (0 : Int32) := by
          have q := own_master ia hia ib hib
          rw [hwv, hca, hcb, hda, hdb] at q
          rw [if_neg hc177, if_pos hc184, if_pos hc189] at q
          exact q
        show own_Ends _ _ _ _ _ _ _ T42 (mkF m 215 #[.val (.int p1), .val (.int p2), .val (.ref b1), .val (.int (Int32.ofNat ia)), .val (.int (Int32.ofNat ib)), .val (.int wv), .val (.int ca), .val (.int cb), .val (.int (0 : Int32))] [(.int (0 : Int32)), (.int wv)])
        refine own_st (fun _ kq => XS.icmpNo X42.here hx rfl (hb hby at_215) rfl (teq hm).2 kq) ?_
        show own_Ends _ _ _ _ _ _ _ T42 (mkF m 218 #[.val (.int p1), .val (.int p2), .val (.ref b1), .val (.int (Int32.ofNat ia)), .val (.int (Int32.ofNat ib)), .val (.int wv), .val (.int ca), .val (.int cb), .val (.int (0 : Int32))] [])
        refine own_st (fun _ kq => XS.iconst X42.here hx rfl (hb hby at_218) kq) ?_
        show own_Ends _ _ _ _ _ _ _ T42 (mkF m 219 #[.val (.int p1), .val (.int p2), .val (.ref b1), .val (.int (Int32.ofNat ia)), .val (.int (Int32.ofNat ib)), .val (.int wv), .val (.int ca), .val (.int cb), .val (.int (0 : Int32))] [(.int (1 : Int32))])
        refine own_st (fun _ kq => XS.goto X42.here hx rfl (pc0 := 219) (pc' := 223) rfl (hb hby at_219) (by decide) (by decide) kq) ?_
        show own_Ends _ _ _ _ _ _ _ T42 (mkF m 223 #[.val (.int p1), .val (.int p2), .val (.ref b1), .val (.int (Int32.ofNat ia)), .val (.int (Int32.ofNat ib)), .val (.int wv), .val (.int ca), .val (.int cb), .val (.int (0 : Int32))] [(.int (1 : Int32))])
        refine own_retN X42 hx (t := .boolean) Bd.returns (by simp) (hb hby at_223) hlk (by decide) (by decide) (w := (1 : Int32)) (by decide) ?_
        show Q_rm_law Z p1 p2 r0 r1 r2 r3 r4 r5 r6 r7 r8 r9 r10 r11 r12 r13 r14 r15 r16 r17 r18 h0 n0 _ T42.heap _
        rw [e42]
        exact ⟨rfl, N42⟩
      · skip
        refine own_st (fun _ kq => XS.ifNo X42.here hx rfl (hb hby at_189) rfl ((if0 _ _).trans (feq hc189).1) kq) ?_
        show own_Ends _ _ _ _ _ _ _ T42 (mkF m 192 #[.val (.int p1), .val (.int p2), .val (.ref b1), .val (.int (Int32.ofNat ia)), .val (.int (Int32.ofNat ib)), .val (.int wv), .val (.int ca), .val (.int cb), .unset] [])
        refine own_st (fun _ kq => XS.iloadN X42.here hx rfl (hb hby at_192) rfl kq) ?_
        show own_Ends _ _ _ _ _ _ _ T42 (mkF m 193 #[.val (.int p1), .val (.int p2), .val (.ref b1), .val (.int (Int32.ofNat ia)), .val (.int (Int32.ofNat ib)), .val (.int wv), .val (.int ca), .val (.int cb), .unset] [(.int (Int32.ofNat ia))])
        obtain ⟨_, _, ⟨T43, L43, k43, n43⟩, -, X43, ⟨Lc43, hQ43, l43, y43, z43⟩, st43⟩ := Jvm.LawKit.callS X42 hx (y := (⟨"com/example/consistent_answers/consistentanswers/ontology/DatatypeIsWithinPinLaw", "depth", "(I)I"⟩ : MethodName)) hown (mvT hZ (hw _ (List.mem_of_getElem? (i := 54) rfl))) (mvT hZ (hw _ (List.mem_of_getElem? (i := 55) rfl))) (mvT hZ (hw _ (List.mem_of_getElem? (i := 52) rfl))) (mvT hZ (hw _ (List.mem_of_getElem? (i := 56) rfl))) (by decide) (backOf (W := 0) (rm_depth l Z a0 hw [] (Int32.ofNat ia) da h39 n0 O39 hda) hZ (hw _ (List.mem_of_getElem? (i := 56) rfl)) (hw _ (List.mem_of_getElem? (i := 52) rfl)) (by decide) (by decide)) (g := (mkF m 193 #[.val (.int p1), .val (.int p2), .val (.ref b1), .val (.int (Int32.ofNat ia)), .val (.int (Int32.ofNat ib)), .val (.int wv), .val (.int ca), .val (.int cb), .unset] [(.int (Int32.ofNat ia))])) rfl (by rw [hml]; rfl) (argsL := [(.int (Int32.ofNat ia))]) (rest := []) (lenOf pd_1 rfl) rfl (by show 2 * 0 + _ ≤ _; exact Nat.le_of_eq rfl) (hb hby at_193) (fun _ _ => ⟨rfl, e42, (by decide : 1 + 0 ≤ _), (by decide : 19 + 0 ≤ _)⟩)
        dsimp only [Pt.U, Pt.locs, Pt.cells, Pt.slots] at X43 l43 y43 z43 st43 hQ43
        subst l43 y43 z43
        obtain ⟨rfl, N43q, e43⟩ := hQ43
        have N43 := Fr.app N42 N43q
        refine own_st st43 ?_
        show own_Ends _ _ _ _ _ _ _ T43 (mkF m 196 #[.val (.int p1), .val (.int p2), .val (.ref b1), .val (.int (Int32.ofNat ia)), .val (.int (Int32.ofNat ib)), .val (.int wv), .val (.int ca), .val (.int cb), .unset] [(.int da)])
        refine own_st (fun _ kq => XS.iload X43.here hx rfl (hb hby at_196) rfl kq) ?_
        show own_Ends _ _ _ _ _ _ _ T43 (mkF m 198 #[.val (.int p1), .val (.int p2), .val (.ref b1), .val (.int (Int32.ofNat ia)), .val (.int (Int32.ofNat ib)), .val (.int wv), .val (.int ca), .val (.int cb), .unset] [(.int (Int32.ofNat ib)), (.int da)])
        obtain ⟨_, _, ⟨T44, L44, k44, n44⟩, -, X44, ⟨Lc44, hQ44, l44, y44, z44⟩, st44⟩ := Jvm.LawKit.callS X43 hx (y := (⟨"com/example/consistent_answers/consistentanswers/ontology/DatatypeIsWithinPinLaw", "depth", "(I)I"⟩ : MethodName)) hown (mvT hZ (hw _ (List.mem_of_getElem? (i := 54) rfl))) (mvT hZ (hw _ (List.mem_of_getElem? (i := 55) rfl))) (mvT hZ (hw _ (List.mem_of_getElem? (i := 52) rfl))) (mvT hZ (hw _ (List.mem_of_getElem? (i := 56) rfl))) (by decide) (backOf (W := 1) (rm_depth l Z a0 hw [] (Int32.ofNat ib) db h39 n0 O39 hdb) hZ (hw _ (List.mem_of_getElem? (i := 56) rfl)) (hw _ (List.mem_of_getElem? (i := 52) rfl)) (by decide) (by decide)) (g := (mkF m 198 #[.val (.int p1), .val (.int p2), .val (.ref b1), .val (.int (Int32.ofNat ia)), .val (.int (Int32.ofNat ib)), .val (.int wv), .val (.int ca), .val (.int cb), .unset] [(.int (Int32.ofNat ib)), (.int da)])) rfl (by rw [hml]; rfl) (argsL := [(.int (Int32.ofNat ib))]) (rest := [(.int da)]) (lenOf pd_1 rfl) rfl (by show 2 * 0 + _ ≤ _; exact Nat.le_of_eq rfl) (hb hby at_198) (fun _ _ => ⟨rfl, e43, (by decide : 1 + 0 ≤ _), (by decide : 19 + 0 ≤ _)⟩)
        dsimp only [Pt.U, Pt.locs, Pt.cells, Pt.slots] at X44 l44 y44 z44 st44 hQ44
        subst l44 y44 z44
        obtain ⟨rfl, N44q, e44⟩ := hQ44
        have N44 := Fr.app N43 N44q
        refine own_st st44 ?_
        show own_Ends _ _ _ _ _ _ _ T44 (mkF m 201 #[.val (.int p1), .val (.int p2), .val (.ref b1), .val (.int (Int32.ofNat ia)), .val (.int (Int32.ofNat ib)), .val (.int wv), .val (.int ca), .val (.int cb), .unset] [(.int db), (.int da)])
        by_cases hc201 : da < db
        · skip
          refine own_st (fun _ kq => XS.icmpYes X44.here hx rfl (pc0 := 201) (pc' := 208) rfl (hb hby at_201) rfl (tlt hc201).1 (by decide) (by decide) kq) ?_
          show own_Ends _ _ _ _ _ _ _ T44 (mkF m 208 #[.val (.int p1), .val (.int p2), .val (.ref b1), .val (.int (Int32.ofNat ia)), .val (.int (Int32.ofNat ib)), .val (.int wv), .val (.int ca), .val (.int cb), .unset] [])
          refine own_st (fun _ kq => XS.iconst X44.here hx rfl (hb hby at_208) kq) ?_
          show own_Ends _ _ _ _ _ _ _ T44 (mkF m 209 #[.val (.int p1), .val (.int p2), .val (.ref b1), .val (.int (Int32.ofNat ia)), .val (.int (Int32.ofNat ib)), .val (.int wv), .val (.int ca), .val (.int cb), .unset] [(.int (0 : Int32))])
          refine own_st (fun _ kq => XS.istore X44.here hx rfl (hb hby at_209) rfl (l' := #[.val (.int p1), .val (.int p2), .val (.ref b1), .val (.int (Int32.ofNat ia)), .val (.int (Int32.ofNat ib)), .val (.int wv), .val (.int ca), .val (.int cb), .val (.int (0 : Int32))]) rfl kq) ?_
          show own_Ends _ _ _ _ _ _ _ T44 (mkF m 211 #[.val (.int p1), .val (.int p2), .val (.ref b1), .val (.int (Int32.ofNat ia)), .val (.int (Int32.ofNat ib)), .val (.int wv), .val (.int ca), .val (.int cb), .val (.int (0 : Int32))] [])
          refine own_st (fun _ kq => XS.iload X44.here hx rfl (hb hby at_211) rfl kq) ?_
          show own_Ends _ _ _ _ _ _ _ T44 (mkF m 213 #[.val (.int p1), .val (.int p2), .val (.ref b1), .val (.int (Int32.ofNat ia)), .val (.int (Int32.ofNat ib)), .val (.int wv), .val (.int ca), .val (.int cb), .val (.int (0 : Int32))] [(.int wv)])
          refine own_st (fun _ kq => XS.iload X44.here hx rfl (hb hby at_213) rfl kq) ?_
          show own_Ends _ _ _ _ _ _ _ T44 (mkF m 215 #[.val (.int p1), .val (.int p2), .val (.ref b1), .val (.int (Int32.ofNat ia)), .val (.int (Int32.ofNat ib)), .val (.int wv), .val (.int ca), .val (.int cb), .val (.int (0 : Int32))] [(.int (0 : Int32)), (.int wv)])
          have hm : wv = (0 : Int32) := by
            have q := own_master ia hia ib hib
            rw [hwv, hca, hcb, hda, hdb] at q
            rw [if_neg hc177, if_pos hc184, if_neg hc189, if_pos hc201] at q
            exact q
          show own_Ends _ _ _ _ _ _ _ T44 (mkF m 215 #[.val (.int p1), .val (.int p2), .val (.ref b1), .val (.int (Int32.ofNat ia)), .val (.int (Int32.ofNat ib)), .val (.int wv), .val (.int ca), .val (.int cb), .val (.int (0 : Int32))] [(.int (0 : Int32)), (.int wv)])
          refine own_st (fun _ kq => XS.icmpNo X44.here hx rfl (hb hby at_215) rfl (teq hm).2 kq) ?_
          show own_Ends _ _ _ _ _ _ _ T44 (mkF m 218 #[.val (.int p1), .val (.int p2), .val (.ref b1), .val (.int (Int32.ofNat ia)), .val (.int (Int32.ofNat ib)), .val (.int wv), .val (.int ca), .val (.int cb), .val (.int (0 : Int32))] [])
          refine own_st (fun _ kq => XS.iconst X44.here hx rfl (hb hby at_218) kq) ?_
          show own_Ends _ _ _ _ _ _ _ T44 (mkF m 219 #[.val (.int p1), .val (.int p2), .val (.ref b1), .val (.int (Int32.ofNat ia)), .val (.int (Int32.ofNat ib)), .val (.int wv), .val (.int ca), .val (.int cb), .val (.int (0 : Int32))] [(.int (1 : Int32))])
          refine own_st (fun _ kq => XS.goto X44.here hx rfl (pc0 := 219) (pc' := 223) rfl (hb hby at_219) (by decide) (by decide) kq) ?_
          show own_Ends _ _ _ _ _ _ _ T44 (mkF m 223 #[.val (.int p1), .val (.int p2), .val (.ref b1), .val (.int (Int32.ofNat ia)), .val (.int (Int32.ofNat ib)), .val (.int wv), .val (.int ca), .val (.int cb), .val (.int (0 : Int32))] [(.int (1 : Int32))])
          refine own_retN X44 hx (t := .boolean) Bd.returns (by simp) (hb hby at_223) hlk (by decide) (by decide) (w := (1 : Int32)) (by decide) ?_
          show Q_rm_law Z p1 p2 r0 r1 r2 r3 r4 r5 r6 r7 r8 r9 r10 r11 r12 r13 r14 r15 r16 r17 r18 h0 n0 _ T44.heap _
          rw [e44]
          exact ⟨rfl, N44⟩
        · skip
          refine own_st (fun _ kq => XS.icmpNo X44.here hx rfl (hb hby at_201) rfl (flt hc201).1 kq) ?_
          show own_Ends _ _ _ _ _ _ _ T44 (mkF m 204 #[.val (.int p1), .val (.int p2), .val (.ref b1), .val (.int (Int32.ofNat ia)), .val (.int (Int32.ofNat ib)), .val (.int wv), .val (.int ca), .val (.int cb), .unset] [])
          refine own_st (fun _ kq => XS.iconst X44.here hx rfl (hb hby at_204) kq) ?_
          show own_Ends _ _ _ _ _ _ _ T44 (mkF m 205 #[.val (.int p1), .val (.int p2), .val (.ref b1), .val (.int (Int32.ofNat ia)), .val (.int (Int32.ofNat ib)), .val (.int wv), .val (.int ca), .val (.int cb), .unset] [(.int (1 : Int32))])
          refine own_st (fun _ kq => XS.goto X44.here hx rfl (pc0 := 205) (pc' := 209) rfl (hb hby at_205) (by decide) (by decide) kq) ?_
          show own_Ends _ _ _ _ _ _ _ T44 (mkF m 209 #[.val (.int p1), .val (.int p2), .val (.ref b1), .val (.int (Int32.ofNat ia)), .val (.int (Int32.ofNat ib)), .val (.int wv), .val (.int ca), .val (.int cb), .unset] [(.int (1 : Int32))])
          refine own_st (fun _ kq => XS.istore X44.here hx rfl (hb hby at_209) rfl (l' := #[.val (.int p1), .val (.int p2), .val (.ref b1), .val (.int (Int32.ofNat ia)), .val (.int (Int32.ofNat ib)), .val (.int wv), .val (.int ca), .val (.int cb), .val (.int (1 : Int32))]) rfl kq) ?_
          show own_Ends _ _ _ _ _ _ _ T44 (mkF m 211 #[.val (.int p1), .val (.int p2), .val (.ref b1), .val (.int (Int32.ofNat ia)), .val (.int (Int32.ofNat ib)), .val (.int wv), .val (.int ca), .val (.int cb), .val (.int (1 : Int32))] [])
          refine own_st (fun _ kq => XS.iload X44.here hx rfl (hb hby at_211) rfl kq) ?_
          show own_Ends _ _ _ _ _ _ _ T44 (mkF m 213 #[.val (.int p1), .val (.int p2), .val (.ref b1), .val (.int (Int32.ofNat ia)), .val (.int (Int32.ofNat ib)), .val (.int wv), .val (.int ca), .val (.int cb), .val (.int (1 : Int32))] [(.int wv)])
          refine own_st (fun _ kq => XS.iload X44.here hx rfl (hb hby at_213) rfl kq) ?_
          show own_Ends _ _ _ _ _ _ _ T44 (mkF m 215 #[.val (.int p1), .val (.int p2), .val (.ref b1), .val (.int (Int32.ofNat ia)), .val (.int (Int32.ofNat ib)), .val (.int wv), .val (.int ca), .val (.int cb), .val (.int (1 : Int32))] [(.int (1 : Int32)), (.int wv)])
          have hm : wv = (1 : Int32) := by
            have q := own_master ia hia ib hib
            rw [hwv, hca, hcb, hda, hdb] at q
            rw [if_neg hc177, if_pos hc184, if_neg hc189, if_neg hc201] at q
            exact q
          show own_Ends _ _ _ _ _ _ _ T44 (mkF m 215 #[.val (.int p1), .val (.int p2), .val (.ref b1), .val (.int (Int32.ofNat ia)), .val (.int (Int32.ofNat ib)), .val (.int wv), .val (.int ca), .val (.int cb), .val (.int (1 : Int32))] [(.int (1 : Int32)), (.int wv)])
          refine own_st (fun _ kq => XS.icmpNo X44.here hx rfl (hb hby at_215) rfl (teq hm).2 kq) ?_
          show own_Ends _ _ _ _ _ _ _ T44 (mkF m 218 #[.val (.int p1), .val (.int p2), .val (.ref b1), .val (.int (Int32.ofNat ia)), .val (.int (Int32.ofNat ib)), .val (.int wv), .val (.int ca), .val (.int cb), .val (.int (1 : Int32))] [])
          refine own_st (fun _ kq => XS.iconst X44.here hx rfl (hb hby at_218) kq) ?_
          show own_Ends _ _ _ _ _ _ _ T44 (mkF m 219 #[.val (.int p1), .val (.int p2), .val (.ref b1), .val (.int (Int32.ofNat ia)), .val (.int (Int32.ofNat ib)), .val (.int wv), .val (.int ca), .val (.int cb), .val (.int (1 : Int32))] [(.int (1 : Int32))])
          refine own_st (fun _ kq => XS.goto X44.here hx rfl (pc0 := 219) (pc' := 223) rfl (hb hby at_219) (by decide) (by decide) kq) ?_
          show own_Ends _ _ _ _ _ _ _ T44 (mkF m 223 #[.val (.int p1), .val (.int p2), .val (.ref b1), .val (.int (Int32.ofNat ia)), .val (.int (Int32.ofNat ib)), .val (.int wv), .val (.int ca), .val (.int cb), .val (.int (1 : Int32))] [(.int (1 : Int32))])
          refine own_retN X44 hx (t := .boolean) Bd.returns (by simp) (hb hby at_223) hlk (by decide) (by decide) (w := (1 : Int32)) (by decide) ?_
          show Q_rm_law Z p1 p2 r0 r1 r2 r3 r4 r5 r6 r7 r8 r9 r10 r11 r12 r13 r14 r15 r16 r17 r18 h0 n0 _ T44.heap _
          rw [e44]
          exact ⟨rfl, N44⟩
    · skip
      refine own_st (fun _ kq => XS.icmpYes X42.here hx rfl (pc0 := 184) (pc' := 208) rfl (hb hby at_184) rfl (feq hc184).2 (by decide) (by decide) kq) ?_
      show own_Ends _ _ _ _ _ _ _ T42 (mkF m 208 #[.val (.int p1), .val (.int p2), .val (.ref b1), .val (.int (Int32.ofNat ia)), .val (.int (Int32.ofNat ib)), .val (.int wv), .val (.int ca), .val (.int cb), .unset] [])
      refine own_st (fun _ kq => XS.iconst X42.here hx rfl (hb hby at_208) kq) ?_
      show own_Ends _ _ _ _ _ _ _ T42 (mkF m 209 #[.val (.int p1), .val (.int p2), .val (.ref b1), .val (.int (Int32.ofNat ia)), .val (.int (Int32.ofNat ib)), .val (.int wv), .val (.int ca), .val (.int cb), .unset] [(.int (0 : Int32))])
      refine own_st (fun _ kq => XS.istore X42.here hx rfl (hb hby at_209) rfl (l' := #[.val (.int p1), .val (.int p2), .val (.ref b1), .val (.int (Int32.ofNat ia)), .val (.int (Int32.ofNat ib)), .val (.int wv), .val (.int ca), .val (.int cb), .val (.int (0 : Int32))]) rfl kq) ?_
      show own_Ends _ _ _ _ _ _ _ T42 (mkF m 211 #[.val (.int p1), .val (.int p2), .val (.ref b1), .val (.int (Int32.ofNat ia)), .val (.int (Int32.ofNat ib)), .val (.int wv), .val (.int ca), .val (.int cb), .val (.int (0 : Int32))] [])
      refine own_st (fun _ kq => XS.iload X42.here hx rfl (hb hby at_211) rfl kq) ?_
      show own_Ends _ _ _ _ _ _ _ T42 (mkF m 213 #[.val (.int p1), .val (.int p2), .val (.ref b1), .val (.int (Int32.ofNat ia)), .val (.int (Int32.ofNat ib)), .val (.int wv), .val (.int ca), .val (.int cb), .val (.int (0 : Int32))] [(.int wv)])
      refine own_st (fun _ kq => XS.iload X42.here hx rfl (hb hby at_213) rfl kq) ?_
      show own_Ends _ _ _ _ _ _ _ T42 (mkF m 215 #[.val (.int p1), .val (.int p2), .val (.ref b1), .val (.int (Int32.ofNat ia)), .val (.int (Int32.ofNat ib)), .val (.int wv), .val (.int ca), .val (.int cb), .val (.int (0 : Int32))] [(.int (0 : Int32)), (.int wv)])
      have hm : wv = (0 : Int32) := by
        have q := own_master ia hia ib hib
        rw [hwv, hca, hcb, hda, hdb] at q
        rw [if_neg hc177, if_neg hc184] at q
        exact q
      show own_Ends _ _ _ _ _ _ _ T42 (mkF m 215 #[.val (.int p1), .val (.int p2), .val (.ref b1), .val (.int (Int32.ofNat ia)), .val (.int (Int32.ofNat ib)), .val (.int wv), .val (.int ca), .val (.int cb), .val (.int (0 : Int32))] [(.int (0 : Int32)), (.int wv)])
      refine own_st (fun _ kq => XS.icmpNo X42.here hx rfl (hb hby at_215) rfl (teq hm).2 kq) ?_
      show own_Ends _ _ _ _ _ _ _ T42 (mkF m 218 #[.val (.int p1), .val (.int p2), .val (.ref b1), .val (.int (Int32.ofNat ia)), .val (.int (Int32.ofNat ib)), .val (.int wv), .val (.int ca), .val (.int cb), .val (.int (0 : Int32))] [])
      refine own_st (fun _ kq => XS.iconst X42.here hx rfl (hb hby at_218) kq) ?_
      show own_Ends _ _ _ _ _ _ _ T42 (mkF m 219 #[.val (.int p1), .val (.int p2), .val (.ref b1), .val (.int (Int32.ofNat ia)), .val (.int (Int32.ofNat ib)), .val (.int wv), .val (.int ca), .val (.int cb), .val (.int (0 : Int32))] [(.int (1 : Int32))])
      refine own_st (fun _ kq => XS.goto X42.here hx rfl (pc0 := 219) (pc' := 223) rfl (hb hby at_219) (by decide) (by decide) kq) ?_
      show own_Ends _ _ _ _ _ _ _ T42 (mkF m 223 #[.val (.int p1), .val (.int p2), .val (.ref b1), .val (.int (Int32.ofNat ia)), .val (.int (Int32.ofNat ib)), .val (.int wv), .val (.int ca), .val (.int cb), .val (.int (0 : Int32))] [(.int (1 : Int32))])
      refine own_retN X42 hx (t := .boolean) Bd.returns (by simp) (hb hby at_223) hlk (by decide) (by decide) (w := (1 : Int32)) (by decide) ?_
      show Q_rm_law Z p1 p2 r0 r1 r2 r3 r4 r5 r6 r7 r8 r9 r10 r11 r12 r13 r14 r15 r16 r17 r18 h0 n0 _ T42.heap _
      rw [e42]
      exact ⟨rfl, N42⟩
set_option maxRecDepth 65536 in
set_option maxHeartbeats 40000000 in
theorem comes_1 {Post : Tables → Env → Array Value → State → Outcome → State → Prop} (hpost : ∀ tb e args s v u, (limb_1_1.after args s (.returned v) u = true ∧ limb_1_2.after args s (.returned v) u = true ∧ True) → FrameEnd s (.returned v) u (Jvm.fieldLocs frame_1_writes args s ++ Jvm.arrayLocs frame_1_arrays args s ++ Jvm.staticLocs frame_1_statics s) 16 128 → Post tb e args s (.returned v) u) :
    ArmFor flags0 classFile x code maxLocals ret World_1 tables_1 room_1 Calls_1 rest_1 Pre_1 Post := by
  intro l hfl _ _ p e ha hc hk s m args below hf hA hF happ hP
  obtain ⟨hcalls, hrest, hpre⟩ := hP
  obtain ⟨-, -, -, hnamed, -, -, -, hat⟩ := (Spec.applies_iff hf).mp happ
  obtain ⟨hg, hn⟩ := and_e (Cond.before_iff.mp (show (Jvm.Cond.and given_1 narrow_1).before args s = true from hpre))
  obtain ⟨g0, hg⟩ := and_e hg
  obtain ⟨g1, hg⟩ := and_e hg
  have g2 := hg
  obtain ⟨w0, w1, rfl⟩ : ∃ w0 w1 : Value, args = #[w0, w1] := by
    have hs : args.size = 2 := by simpa [Cond.value, given_1] using g0
    obtain ⟨L⟩ := args
    match L, hs with
    | [w0, w1], _ => exact ⟨w0, w1, rfl⟩
  have hw := fun d (hd : d ∈ tables_1) => atoms_spec (ws := Jvm.Cond.code x code maxLocals ret :: tables_1) hat d (List.mem_cons_of_mem _ hd)
  obtain ⟨i0, ei0⟩ := is_v g1
  obtain rfl : w0 = (.int i0) := Option.some.inj ei0
  obtain ⟨i1, ei1⟩ := is_v g2
  obtain rfl : w1 = (.int i1) := Option.some.inj ei1
  obtain ⟨c0, hn⟩ := and_e hn
  obtain ⟨c1, hn⟩ := and_e hn
  obtain ⟨c2, hn⟩ := and_e hn
  obtain ⟨c3, hn⟩ := and_e hn
  obtain ⟨c4, hn⟩ := and_e hn
  obtain ⟨c5, hn⟩ := and_e hn
  obtain ⟨c6, hn⟩ := and_e hn
  obtain ⟨c7, hn⟩ := and_e hn
  obtain ⟨c8, hn⟩ := and_e hn
  obtain ⟨c9, hn⟩ := and_e hn
  obtain ⟨c10, hn⟩ := and_e hn
  obtain ⟨c11, hn⟩ := and_e hn
  obtain ⟨c12, hn⟩ := and_e hn
  obtain ⟨c13, hn⟩ := and_e hn
  obtain ⟨c14, hn⟩ := and_e hn
  obtain ⟨c15, hn⟩ := and_e hn
  obtain ⟨c16, hn⟩ := and_e hn
  obtain ⟨c17, hn⟩ := and_e hn
  obtain ⟨c18, hn⟩ := and_e hn
  obtain ⟨c19, hn⟩ := and_e hn
  obtain ⟨c20, hn⟩ := and_e hn
  obtain ⟨c21, hn⟩ := and_e hn
  obtain ⟨c22, hn⟩ := and_e hn
  obtain ⟨c23, hn⟩ := and_e hn
  obtain ⟨c24, hn⟩ := and_e hn
  obtain ⟨c25, hn⟩ := and_e hn
  obtain ⟨c26, hn⟩ := and_e hn
  obtain ⟨c27, hn⟩ := and_e hn
  obtain ⟨c28, hn⟩ := and_e hn
  obtain ⟨c29, hn⟩ := and_e hn
  obtain ⟨c30, hn⟩ := and_e hn
  obtain ⟨c31, hn⟩ := and_e hn
  obtain ⟨c32, hn⟩ := and_e hn
  obtain ⟨c33, hn⟩ := and_e hn
  obtain ⟨c34, hn⟩ := and_e hn
  obtain ⟨c35, hn⟩ := and_e hn
  obtain ⟨c36, hn⟩ := and_e hn
  obtain ⟨c37, hn⟩ := and_e hn
  obtain ⟨c38, hn⟩ := and_e hn
  obtain ⟨c39, hn⟩ := and_e hn
  obtain ⟨c40, hn⟩ := and_e hn
  obtain ⟨c41, hn⟩ := and_e hn
  obtain ⟨c42, hn⟩ := and_e hn
  obtain ⟨c43, hn⟩ := and_e hn
  obtain ⟨c44, hn⟩ := and_e hn
  obtain ⟨c45, hn⟩ := and_e hn
  obtain ⟨c46, hn⟩ := and_e hn
  obtain ⟨c47, hn⟩ := and_e hn
  obtain ⟨c48, hn⟩ := and_e hn
  obtain ⟨c49, hn⟩ := and_e hn
  obtain ⟨c50, hn⟩ := and_e hn
  obtain ⟨c51, hn⟩ := and_e hn
  obtain ⟨c52, hn⟩ := and_e hn
  obtain ⟨c53, hn⟩ := and_e hn
  obtain ⟨c54, hn⟩ := and_e hn
  obtain ⟨c55, hn⟩ := and_e hn
  have c56 := hn
  obtain ⟨r0, v_0⟩ := exa_v c0
  have E_0 := Exa.start v_0 c0
  have S_0 := Sta.start v_0 (Or.inr ⟨(hw _ (List.mem_of_getElem? (i := 3) rfl)), (hw _ (List.mem_of_getElem? (i := 4) rfl))⟩)
  obtain ⟨r1, v_1⟩ := exa_v c1
  have E_1 := Exa.start v_1 c1
  have S_1 := Sta.start v_1 (Or.inr ⟨(hw _ (List.mem_of_getElem? (i := 3) rfl)), (hw _ (List.mem_of_getElem? (i := 7) rfl))⟩)
  obtain ⟨r2, v_2⟩ := exa_v c2
  have E_2 := Exa.start v_2 c2
  have S_2 := Sta.start v_2 (Or.inr ⟨(hw _ (List.mem_of_getElem? (i := 3) rfl)), (hw _ (List.mem_of_getElem? (i := 9) rfl))⟩)
  obtain ⟨r3, v_3⟩ := exa_v c3
  have E_3 := Exa.start v_3 c3
  have S_3 := Sta.start v_3 (Or.inr ⟨(hw _ (List.mem_of_getElem? (i := 3) rfl)), (hw _ (List.mem_of_getElem? (i := 11) rfl))⟩)
  obtain ⟨r4, v_4⟩ := exa_v c4
  have E_4 := Exa.start v_4 c4
  have S_4 := Sta.start v_4 (Or.inr ⟨(hw _ (List.mem_of_getElem? (i := 3) rfl)), (hw _ (List.mem_of_getElem? (i := 13) rfl))⟩)
  obtain ⟨r5, v_5⟩ := exa_v c5
  have E_5 := Exa.start v_5 c5
  have S_5 := Sta.start v_5 (Or.inr ⟨(hw _ (List.mem_of_getElem? (i := 3) rfl)), (hw _ (List.mem_of_getElem? (i := 15) rfl))⟩)
  obtain ⟨r6, v_6⟩ := exa_v c6
  have E_6 := Exa.start v_6 c6
  have S_6 := Sta.start v_6 (Or.inr ⟨(hw _ (List.mem_of_getElem? (i := 3) rfl)), (hw _ (List.mem_of_getElem? (i := 17) rfl))⟩)
  obtain ⟨r7, v_7⟩ := exa_v c7
  have E_7 := Exa.start v_7 c7
  have S_7 := Sta.start v_7 (Or.inr ⟨(hw _ (List.mem_of_getElem? (i := 3) rfl)), (hw _ (List.mem_of_getElem? (i := 19) rfl))⟩)
  obtain ⟨r8, v_8⟩ := exa_v c8
  have E_8 := Exa.start v_8 c8
  have S_8 := Sta.start v_8 (Or.inr ⟨(hw _ (List.mem_of_getElem? (i := 3) rfl)), (hw _ (List.mem_of_getElem? (i := 21) rfl))⟩)
  obtain ⟨r9, v_9⟩ := exa_v c9
  have E_9 := Exa.start v_9 c9
  have S_9 := Sta.start v_9 (Or.inr ⟨(hw _ (List.mem_of_getElem? (i := 3) rfl)), (hw _ (List.mem_of_getElem? (i := 23) rfl))⟩)
  obtain ⟨r10, v_10⟩ := exa_v c10
  have E_10 := Exa.start v_10 c10
  have S_10 := Sta.start v_10 (Or.inr ⟨(hw _ (List.mem_of_getElem? (i := 3) rfl)), (hw _ (List.mem_of_getElem? (i := 25) rfl))⟩)
  obtain ⟨r11, v_11⟩ := exa_v c11
  have E_11 := Exa.start v_11 c11
  have S_11 := Sta.start v_11 (Or.inr ⟨(hw _ (List.mem_of_getElem? (i := 3) rfl)), (hw _ (List.mem_of_getElem? (i := 27) rfl))⟩)
  obtain ⟨r12, v_12⟩ := exa_v c12
  have E_12 := Exa.start v_12 c12
  have S_12 := Sta.start v_12 (Or.inr ⟨(hw _ (List.mem_of_getElem? (i := 3) rfl)), (hw _ (List.mem_of_getElem? (i := 29) rfl))⟩)
  obtain ⟨r13, v_13⟩ := exa_v c13
  have E_13 := Exa.start v_13 c13
  have S_13 := Sta.start v_13 (Or.inr ⟨(hw _ (List.mem_of_getElem? (i := 3) rfl)), (hw _ (List.mem_of_getElem? (i := 31) rfl))⟩)
  obtain ⟨r14, v_14⟩ := exa_v c14
  have E_14 := Exa.start v_14 c14
  have S_14 := Sta.start v_14 (Or.inr ⟨(hw _ (List.mem_of_getElem? (i := 3) rfl)), (hw _ (List.mem_of_getElem? (i := 33) rfl))⟩)
  obtain ⟨r15, v_15⟩ := exa_v c15
  have E_15 := Exa.start v_15 c15
  have S_15 := Sta.start v_15 (Or.inr ⟨(hw _ (List.mem_of_getElem? (i := 3) rfl)), (hw _ (List.mem_of_getElem? (i := 35) rfl))⟩)
  obtain ⟨r16, v_16⟩ := exa_v c16
  have E_16 := Exa.start v_16 c16
  have S_16 := Sta.start v_16 (Or.inr ⟨(hw _ (List.mem_of_getElem? (i := 3) rfl)), (hw _ (List.mem_of_getElem? (i := 37) rfl))⟩)
  obtain ⟨r17, v_17⟩ := exa_v c17
  have E_17 := Exa.start v_17 c17
  have S_17 := Sta.start v_17 (Or.inr ⟨(hw _ (List.mem_of_getElem? (i := 3) rfl)), (hw _ (List.mem_of_getElem? (i := 39) rfl))⟩)
  obtain ⟨r18, v_18⟩ := exa_v c18
  have E_18 := Exa.start v_18 c18
  have S_18 := Sta.start v_18 (Or.inr ⟨(hw _ (List.mem_of_getElem? (i := 3) rfl)), (hw _ (List.mem_of_getElem? (i := 41) rfl))⟩)
  have F_0_ordinal := own_fldI v_0 c19
  have F_3_ordinal := own_fldI v_3 c20
  have F_0_wider := own_fldN v_0 c21
  have F_14_ordinal := own_fldI v_14 c22
  have F_1_ordinal := own_fldI v_1 c23
  have F_14_wider := own_fldR v_14 v_13 c24
  have F_13_ordinal := own_fldI v_13 c25
  have F_13_wider := own_fldR v_13 v_0 c26
  have F_17_ordinal := own_fldI v_17 c27
  have F_2_ordinal := own_fldI v_2 c28
  have F_2_wider := own_fldR v_2 v_1 c29
  have F_9_ordinal := own_fldI v_9 c30
  have F_9_wider := own_fldR v_9 v_8 c31
  have F_8_ordinal := own_fldI v_8 c32
  have F_8_wider := own_fldR v_8 v_0 c33
  have F_3_wider := own_fldR v_3 v_2 c34
  have F_1_wider := own_fldR v_1 v_0 c35
  have F_6_ordinal := own_fldI v_6 c36
  have F_10_ordinal := own_fldI v_10 c37
  have F_6_wider := own_fldR v_6 v_5 c38
  have F_5_ordinal := own_fldI v_5 c39
  have F_5_wider := own_fldR v_5 v_4 c40
  have F_4_ordinal := own_fldI v_4 c41
  have F_4_wider := own_fldR v_4 v_3 c42
  have F_12_ordinal := own_fldI v_12 c43
  have F_12_wider := own_fldR v_12 v_11 c44
  have F_11_ordinal := own_fldI v_11 c45
  have F_11_wider := own_fldR v_11 v_10 c46
  have F_10_wider := own_fldR v_10 v_9 c47
  have F_7_ordinal := own_fldI v_7 c48
  have F_7_wider := own_fldR v_7 v_6 c49
  have F_16_ordinal := own_fldI v_16 c50
  have F_16_wider := own_fldR v_16 v_0 c51
  have F_15_ordinal := own_fldI v_15 c52
  have F_18_ordinal := own_fldI v_18 c53
  have F_15_wider := own_fldR v_15 v_0 c54
  have F_18_wider := own_fldR v_18 v_0 c55
  have F_17_wider := own_fldR v_17 v_0 c56
  have G : own_W s r0 r1 r2 r3 r4 r5 r6 r7 r8 r9 r10 r11 r12 r13 r14 r15 r16 r17 r18 := ⟨S_0, E_0, S_1, E_1, S_2, E_2, S_3, E_3, S_4, E_4, S_5, E_5, S_6, E_6, S_7, E_7, S_8, E_8, S_9, E_9, S_10, E_10, S_11, E_11, S_12, E_12, S_13, E_13, S_14, E_14, S_15, E_15, S_16, E_16, S_17, E_17, S_18, E_18, F_0_ordinal, F_3_ordinal, F_0_wider, F_14_ordinal, F_1_ordinal, F_14_wider, F_13_ordinal, F_13_wider, F_17_ordinal, F_2_ordinal, F_2_wider, F_9_ordinal, F_9_wider, F_8_ordinal, F_8_wider, F_3_wider, F_1_wider, F_6_ordinal, F_10_ordinal, F_6_wider, F_5_ordinal, F_5_wider, F_4_ordinal, F_4_wider, F_12_ordinal, F_12_wider, F_11_ordinal, F_11_wider, F_10_wider, F_7_ordinal, F_7_wider, F_16_ordinal, F_16_wider, F_15_ordinal, F_18_ordinal, F_15_wider, F_18_wider, F_17_wider⟩
  obtain ⟨n, o, h1, h2, h3, _, L, rfl, ⟨rfl, N⟩, hq⟩ := rm_law l s _ hw tables_1 i0 i1 r0 r1 r2 r3 r4 r5 r6 r7 r8 r9 r10 r11 r12 r13 r14 r15 r16 r17 r18 s.heap s.heap.size (Old.start s) G p e ha hc hk s m _ below hf ((Spec.applies_iff_loose hf).mp happ).1 ⟨rfl, State.Warmed39.refl s, rfl⟩ trivial
  refine ⟨n, _, h1, h2, h3, hpost _ _ _ _ _ _ ⟨Cond.after_iff.mpr rfl, Cond.after_iff.mpr (eq_i res_at (Term.int_eval (1)) rfl), trivial⟩ ⟨hq.1, hq.2.1, (hq.2.2.sift fun y hy => Or.inr (N y hy)).mono (by decide) (by decide)⟩⟩
theorem main_1_1 : Claimed_1_1 := comes_1 fun _ _ _ _ _ _ h hF => ⟨h.1, hF⟩
theorem main_1_2 : Claimed_1_2 := comes_1 fun _ _ _ _ _ _ h hF => ⟨h.2.1, hF⟩
end Jvm.Pilot.@@N@@
namespace Jvm.Pilot.@@N@@
open Jvm Jvm.ClassFile Sem Op Lib Jvm.Free Jvm.Stand Jvm.Pilot.@@N@@.Jvm.D
/-! MADE BY PROGRAM (witnessworld.py) out of the Statement's table words and the real class files: 13 classes; the members and pool entries that the words name. The judged class is class 1, her method 3. -/
namespace start1
open Jvm.ClassFile
def u (s : String) : CpInfo := .utf8 (stringToUtf16 s)
/-- a pool by its gaps: so many unusable entries, then the entry; so many at the end -/
def gap : Nat → List CpInfo → List CpInfo
  | 0, r => r
  | n + 1, r => .unusable :: gap n r
def poolList (es : List (Nat × CpInfo)) (last : Nat) : List CpInfo := es.foldr (fun e r => gap e.1 (e.2 :: r)) (gap last [])
def pool (es : List (Nat × CpInfo)) (last : Nat) : Array CpInfo := ⟨poolList es last⟩
def fileOf (pool : Array CpInfo) (this : Nat) (attrs : Array Attribute := #[]) (ms : Array MethodInfo := #[]) (fl : Nat := 33) (sup : Nat := 0) (ifs : Array Nat := #[]) (fds : Array FieldInfo := #[]) : ClassFile where
  minorVersion := 0
  majorVersion := 65
  constantPool := pool
  accessFlags := fl
  thisClass := this
  superClass := sup
  interfaces := ifs
  fields := fds
  methods := ms
  attributes := attrs
def plain (name : String) (sup : Option ClassId) : Class where
  name := name
  kind := .ordinary
  loader := none
  accessFlags := 33
  super := sup
  interfaces := #[]
  cf := none
  fields := #[]
  methods := #[]
  instanceTypes := #[]
  staticTypes := #[]
  resolved := #[]
  callSites := []
  init := .initialized
  statics := none
  mirror := none

def pool0 : Array CpInfo := pool [(5, u "<init>"), (0, u "()V"), (1, .class_ 10), (1, u "java/lang/Object")] 113

def k0m0 : Method := { name := "<init>", desc := "()V", sig := { parameters := [], returnType := none }, accessFlags := 1, code := none }
/-- java/lang/Object -/
def k0 : Class := { plain "java/lang/Object" none with
  accessFlags := 33
  interfaces := #[]
  cf := some (fileOf pool0 8 #[] #[{ accessFlags := 1, nameIndex := 5, descriptorIndex := 6, attributes := #[] }] 33 0 #[] #[])
  fields := #[]
  methods := #[k0m0]
  instanceTypes := #[]
  staticTypes := #[]
  resolved := Array.replicate 124 none
  statics := none }

def pool1 : Array CpInfo := pool [(2, .class_ 4), (1, u "java/lang/Object"), (0, u "<init>"), (0, u "()V"), (0, .class_ 8), (0, u "com/example/consistent_answers/consistentanswers/ontology/Datatype"), (0, .fieldref 7 10), (0, .nameAndType 11 12), (0, u "LITERAL"), (0, u "Lcom/example/consistent_answers/consistentanswers/ontology/Datatype;"), (0, .fieldref 7 14), (0, .nameAndType 15 12), (0, u "PLAIN_LITERAL"), (0, .fieldref 7 17), (0, .nameAndType 18 12), (0, u "STRING"), (0, .fieldref 7 20), (0, .nameAndType 21 12), (0, u "NORMALIZED_STRING"), (0, .fieldref 7 23), (0, .nameAndType 24 12), (0, u "TOKEN"), (0, .fieldref 7 26), (0, .nameAndType 27 12), (0, u "NMTOKEN"), (0, .fieldref 7 29), (0, .nameAndType 30 12), (0, u "NAME"), (0, .fieldref 7 32), (0, .nameAndType 33 12), (0, u "NCNAME"), (0, .fieldref 7 35), (0, .nameAndType 36 12), (0, u "REAL"), (0, .fieldref 7 38), (0, .nameAndType 39 12), (0, u "RATIONAL"), (0, .fieldref 7 41), (0, .nameAndType 42 12), (0, u "DECIMAL"), (0, .fieldref 7 44), (0, .nameAndType 45 12), (0, u "INTEGER"), (0, .fieldref 7 47), (0, .nameAndType 48 12), (0, u "NON_NEGATIVE_INTEGER"), (0, .fieldref 7 50), (0, .nameAndType 51 12), (0, u "DATE_TIME"), (0, .fieldref 7 53), (0, .nameAndType 54 12), (0, u "DATE_TIME_STAMP"), (0, .fieldref 7 56), (0, .nameAndType 57 12), (0, u "XML_LITERAL"), (0, .fieldref 7 59), (0, .nameAndType 60 12), (0, u "HEX_BINARY"), (0, .fieldref 7 62), (0, .nameAndType 63 12), (0, u "BASE64_BINARY"), (0, .fieldref 7 65), (0, .nameAndType 66 12), (0, u "ANY_URI"), (0, .integer 2147483647), (0, .methodref 7 69), (0, .nameAndType 70 71), (0, u "isWithin"), (0, u "(Lcom/example/consistent_answers/consistentanswers/ontology/Datatype;)Z"), (0, .methodref 73 74), (0, .class_ 75), (0, .nameAndType 76 77), (0, u "com/example/consistent_answers/consistentanswers/ontology/DatatypeIsWithinPinLaw"), (0, u "chain"), (0, u "(I)I"), (0, .methodref 73 79), (0, .nameAndType 80 77), (0, u "depth"), (3, u "law"), (0, u "(II)Z")] 4

def k1m0 : Method := { name := "<init>", desc := "()V", sig := { parameters := [], returnType := none }, accessFlags := 1, code := none }
def k1c1 : Code := { maxStack := 2, maxLocals := 1, code := method_2_code, exceptionTable := #[], attributes := #[] }
def k1m1 : Method := { name := "chain", desc := "(I)I", sig := { parameters := [.int], returnType := some .int }, accessFlags := 10, code := some k1c1 }
def k1c2 : Code := { maxStack := 2, maxLocals := 1, code := method_3_code, exceptionTable := #[], attributes := #[] }
def k1m2 : Method := { name := "depth", desc := "(I)I", sig := { parameters := [.int], returnType := some .int }, accessFlags := 10, code := some k1c2 }
def k1c3 : Code := { maxStack := 4, maxLocals := 9, code := code, exceptionTable := #[], attributes := #[] }
def k1m3 : Method := { name := "law", desc := "(II)Z", sig := { parameters := [.int, .int], returnType := some .boolean }, accessFlags := 9, code := some k1c3 }
/-- com/example/consistent_answers/consistentanswers/ontology/DatatypeIsWithinPinLaw -/
def k1 : Class := { plain "com/example/consistent_answers/consistentanswers/ontology/DatatypeIsWithinPinLaw" (some 0) with
  accessFlags := 49
  interfaces := #[]
  cf := some (fileOf pool1 73 #[] #[{ accessFlags := 1, nameIndex := 5, descriptorIndex := 6, attributes := #[] }, { accessFlags := 10, nameIndex := 76, descriptorIndex := 77, attributes := #[] }, { accessFlags := 10, nameIndex := 80, descriptorIndex := 77, attributes := #[] }, { accessFlags := 9, nameIndex := 84, descriptorIndex := 85, attributes := #[] }] 49 2 #[] #[])
  fields := #[]
  methods := #[k1m0, k1m1, k1m2, k1m3]
  instanceTypes := #[]
  staticTypes := #[]
  resolved := Array.replicate 90 none
  statics := none }

def pool2 : Array CpInfo := pool [(1, .class_ 2), (0, u "java/lang/constant/Constable"), (0, .class_ 4), (0, u "java/lang/Object")] 6

/-- java/lang/constant/Constable -/
def k2 : Class := { plain "java/lang/constant/Constable" (some 0) with
  accessFlags := 1537
  interfaces := #[]
  cf := some (fileOf pool2 1 #[] #[] 1537 3 #[] #[])
  fields := #[]
  methods := #[]
  instanceTypes := #[]
  staticTypes := #[]
  resolved := Array.replicate 11 none
  statics := none }

def pool3 : Array CpInfo := pool [(1, .class_ 2), (0, u "java/lang/Comparable"), (0, .class_ 4), (0, u "java/lang/Object")] 7

/-- java/lang/Comparable -/
def k3 : Class := { plain "java/lang/Comparable" (some 0) with
  accessFlags := 1537
  interfaces := #[]
  cf := some (fileOf pool3 1 #[] #[] 1537 3 #[] #[])
  fields := #[]
  methods := #[]
  instanceTypes := #[]
  staticTypes := #[]
  resolved := Array.replicate 12 none
  statics := none }

def pool4 : Array CpInfo := pool [(1, .class_ 2), (0, u "java/io/Serializable"), (0, .class_ 4), (0, u "java/lang/Object")] 2

/-- java/io/Serializable -/
def k4 : Class := { plain "java/io/Serializable" (some 0) with
  accessFlags := 1537
  interfaces := #[]
  cf := some (fileOf pool4 1 #[] #[] 1537 3 #[] #[])
  fields := #[]
  methods := #[]
  instanceTypes := #[]
  staticTypes := #[]
  resolved := Array.replicate 7 none
  statics := none }

def pool5 : Array CpInfo := pool [(2, .class_ 4), (1, u "java/lang/Enum"), (0, u "name"), (0, u "Ljava/lang/String;"), (2, u "ordinal"), (0, u "I"), (1, .class_ 14), (1, u "java/lang/Object"), (4, u "hash"), (86, .class_ 108), (1, u "java/lang/Enum$EnumDesc"), (2, .class_ 112), (0, u "java/lang/constant/Constable"), (0, .class_ 114), (0, u "java/lang/Comparable"), (0, .class_ 116), (0, u "java/io/Serializable")] 87

/-- java/lang/Enum -/
def k5 : Class := { plain "java/lang/Enum" (some 0) with
  accessFlags := 1057
  interfaces := #[2, 3, 4]
  cf := some (fileOf pool5 2 #[.nestMembers #[106]] #[] 1057 12 #[111, 113, 115] #[{ accessFlags := 18, nameIndex := 5, descriptorIndex := 6, attributes := #[] }, { accessFlags := 18, nameIndex := 9, descriptorIndex := 10, attributes := #[] }, { accessFlags := 2, nameIndex := 19, descriptorIndex := 10, attributes := #[] }])
  fields := #[{ name := "name", type := (.object "java/lang/String"), accessFlags := 18, slot := 0, constantValue := 0 }, { name := "ordinal", type := .int, accessFlags := 18, slot := 1, constantValue := 0 }, { name := "hash", type := .int, accessFlags := 2, slot := 2, constantValue := 0 }]
  methods := #[]
  instanceTypes := #[(.object "java/lang/String"), .int, .int]
  staticTypes := #[]
  resolved := Array.replicate 204 none
  statics := none }

def pool6 : Array CpInfo := pool [(1, .class_ 2), (0, u "com/example/consistent_answers/consistentanswers/ontology/Datatype"), (2, u "LITERAL"), (0, u "Lcom/example/consistent_answers/consistentanswers/ontology/Datatype;"), (2, u "PLAIN_LITERAL"), (2, u "STRING"), (2, u "NORMALIZED_STRING"), (2, u "TOKEN"), (2, u "NMTOKEN"), (2, u "NAME"), (2, u "NCNAME"), (2, u "REAL"), (2, u "RATIONAL"), (2, u "DECIMAL"), (2, u "INTEGER"), (2, u "NON_NEGATIVE_INTEGER"), (2, u "DATE_TIME"), (2, u "DATE_TIME_STAMP"), (2, u "XML_LITERAL"), (2, u "HEX_BINARY"), (2, u "BASE64_BINARY"), (2, u "ANY_URI"), (2, u "$VALUES"), (0, u "[Lcom/example/consistent_answers/consistentanswers/ontology/Datatype;"), (6, .class_ 73), (1, u "java/lang/Enum"), (12, u "iri"), (0, u "Ljava/lang/String;"), (0, .fieldref 1 89), (0, .nameAndType 90 6), (0, u "wider"), (22, u "isWithin"), (0, u "(Lcom/example/consistent_answers/consistentanswers/ontology/Datatype;)Z"), (1, .class_ 117), (0, u "com/example/consistent_answers/consistentanswers/ontology/Datatype$Namespace")] 104

def k6c0 : Code := { maxStack := 2, maxLocals := 3, code := prog_8_method_6_code, exceptionTable := #[], attributes := #[] }
def k6m0 : Method := { name := "isWithin", desc := "(Lcom/example/consistent_answers/consistentanswers/ontology/Datatype;)Z", sig := { parameters := [(.object "com/example/consistent_answers/consistentanswers/ontology/Datatype")], returnType := some .boolean }, accessFlags := 1, code := some k6c0 }
/-- com/example/consistent_answers/consistentanswers/ontology/Datatype -/
def k6 : Class := { plain "com/example/consistent_answers/consistentanswers/ontology/Datatype" (some 5) with
  accessFlags := 16433
  interfaces := #[]
  cf := some (fileOf pool6 1 #[.nestMembers #[116]] #[{ accessFlags := 1, nameIndex := 113, descriptorIndex := 114, attributes := #[] }] 16433 71 #[] #[{ accessFlags := 16409, nameIndex := 5, descriptorIndex := 6, attributes := #[] }, { accessFlags := 16409, nameIndex := 9, descriptorIndex := 6, attributes := #[] }, { accessFlags := 16409, nameIndex := 12, descriptorIndex := 6, attributes := #[] }, { accessFlags := 16409, nameIndex := 15, descriptorIndex := 6, attributes := #[] }, { accessFlags := 16409, nameIndex := 18, descriptorIndex := 6, attributes := #[] }, { accessFlags := 16409, nameIndex := 21, descriptorIndex := 6, attributes := #[] }, { accessFlags := 16409, nameIndex := 24, descriptorIndex := 6, attributes := #[] }, { accessFlags := 16409, nameIndex := 27, descriptorIndex := 6, attributes := #[] }, { accessFlags := 16409, nameIndex := 30, descriptorIndex := 6, attributes := #[] }, { accessFlags := 16409, nameIndex := 33, descriptorIndex := 6, attributes := #[] }, { accessFlags := 16409, nameIndex := 36, descriptorIndex := 6, attributes := #[] }, { accessFlags := 16409, nameIndex := 39, descriptorIndex := 6, attributes := #[] }, { accessFlags := 16409, nameIndex := 42, descriptorIndex := 6, attributes := #[] }, { accessFlags := 16409, nameIndex := 45, descriptorIndex := 6, attributes := #[] }, { accessFlags := 16409, nameIndex := 48, descriptorIndex := 6, attributes := #[] }, { accessFlags := 16409, nameIndex := 51, descriptorIndex := 6, attributes := #[] }, { accessFlags := 16409, nameIndex := 54, descriptorIndex := 6, attributes := #[] }, { accessFlags := 16409, nameIndex := 57, descriptorIndex := 6, attributes := #[] }, { accessFlags := 16409, nameIndex := 60, descriptorIndex := 6, attributes := #[] }, { accessFlags := 18, nameIndex := 86, descriptorIndex := 87, attributes := #[] }, { accessFlags := 18, nameIndex := 90, descriptorIndex := 6, attributes := #[] }, { accessFlags := 4122, nameIndex := 63, descriptorIndex := 64, attributes := #[] }])
  fields := #[{ name := "LITERAL", type := (.object "com/example/consistent_answers/consistentanswers/ontology/Datatype"), accessFlags := 16409, slot := 0, constantValue := 0 }, { name := "PLAIN_LITERAL", type := (.object "com/example/consistent_answers/consistentanswers/ontology/Datatype"), accessFlags := 16409, slot := 1, constantValue := 0 }, { name := "STRING", type := (.object "com/example/consistent_answers/consistentanswers/ontology/Datatype"), accessFlags := 16409, slot := 2, constantValue := 0 }, { name := "NORMALIZED_STRING", type := (.object "com/example/consistent_answers/consistentanswers/ontology/Datatype"), accessFlags := 16409, slot := 3, constantValue := 0 }, { name := "TOKEN", type := (.object "com/example/consistent_answers/consistentanswers/ontology/Datatype"), accessFlags := 16409, slot := 4, constantValue := 0 }, { name := "NMTOKEN", type := (.object "com/example/consistent_answers/consistentanswers/ontology/Datatype"), accessFlags := 16409, slot := 5, constantValue := 0 }, { name := "NAME", type := (.object "com/example/consistent_answers/consistentanswers/ontology/Datatype"), accessFlags := 16409, slot := 6, constantValue := 0 }, { name := "NCNAME", type := (.object "com/example/consistent_answers/consistentanswers/ontology/Datatype"), accessFlags := 16409, slot := 7, constantValue := 0 }, { name := "REAL", type := (.object "com/example/consistent_answers/consistentanswers/ontology/Datatype"), accessFlags := 16409, slot := 8, constantValue := 0 }, { name := "RATIONAL", type := (.object "com/example/consistent_answers/consistentanswers/ontology/Datatype"), accessFlags := 16409, slot := 9, constantValue := 0 }, { name := "DECIMAL", type := (.object "com/example/consistent_answers/consistentanswers/ontology/Datatype"), accessFlags := 16409, slot := 10, constantValue := 0 }, { name := "INTEGER", type := (.object "com/example/consistent_answers/consistentanswers/ontology/Datatype"), accessFlags := 16409, slot := 11, constantValue := 0 }, { name := "NON_NEGATIVE_INTEGER", type := (.object "com/example/consistent_answers/consistentanswers/ontology/Datatype"), accessFlags := 16409, slot := 12, constantValue := 0 }, { name := "DATE_TIME", type := (.object "com/example/consistent_answers/consistentanswers/ontology/Datatype"), accessFlags := 16409, slot := 13, constantValue := 0 }, { name := "DATE_TIME_STAMP", type := (.object "com/example/consistent_answers/consistentanswers/ontology/Datatype"), accessFlags := 16409, slot := 14, constantValue := 0 }, { name := "XML_LITERAL", type := (.object "com/example/consistent_answers/consistentanswers/ontology/Datatype"), accessFlags := 16409, slot := 15, constantValue := 0 }, { name := "HEX_BINARY", type := (.object "com/example/consistent_answers/consistentanswers/ontology/Datatype"), accessFlags := 16409, slot := 16, constantValue := 0 }, { name := "BASE64_BINARY", type := (.object "com/example/consistent_answers/consistentanswers/ontology/Datatype"), accessFlags := 16409, slot := 17, constantValue := 0 }, { name := "ANY_URI", type := (.object "com/example/consistent_answers/consistentanswers/ontology/Datatype"), accessFlags := 16409, slot := 18, constantValue := 0 }, { name := "iri", type := (.object "java/lang/String"), accessFlags := 18, slot := 3, constantValue := 0 }, { name := "wider", type := (.object "com/example/consistent_answers/consistentanswers/ontology/Datatype"), accessFlags := 18, slot := 4, constantValue := 0 }, { name := "$VALUES", type := (.array (.object "com/example/consistent_answers/consistentanswers/ontology/Datatype")), accessFlags := 4122, slot := 19, constantValue := 0 }]
  methods := #[k6m0]
  instanceTypes := #[(.object "java/lang/String"), .int, .int, (.object "java/lang/String"), (.object "com/example/consistent_answers/consistentanswers/ontology/Datatype")]
  staticTypes := #[(.object "com/example/consistent_answers/consistentanswers/ontology/Datatype"), (.object "com/example/consistent_answers/consistentanswers/ontology/Datatype"), (.object "com/example/consistent_answers/consistentanswers/ontology/Datatype"), (.object "com/example/consistent_answers/consistentanswers/ontology/Datatype"), (.object "com/example/consistent_answers/consistentanswers/ontology/Datatype"), (.object "com/example/consistent_answers/consistentanswers/ontology/Datatype"), (.object "com/example/consistent_answers/consistentanswers/ontology/Datatype"), (.object "com/example/consistent_answers/consistentanswers/ontology/Datatype"), (.object "com/example/consistent_answers/consistentanswers/ontology/Datatype"), (.object "com/example/consistent_answers/consistentanswers/ontology/Datatype"), (.object "com/example/consistent_answers/consistentanswers/ontology/Datatype"), (.object "com/example/consistent_answers/consistentanswers/ontology/Datatype"), (.object "com/example/consistent_answers/consistentanswers/ontology/Datatype"), (.object "com/example/consistent_answers/consistentanswers/ontology/Datatype"), (.object "com/example/consistent_answers/consistentanswers/ontology/Datatype"), (.object "com/example/consistent_answers/consistentanswers/ontology/Datatype"), (.object "com/example/consistent_answers/consistentanswers/ontology/Datatype"), (.object "com/example/consistent_answers/consistentanswers/ontology/Datatype"), (.object "com/example/consistent_answers/consistentanswers/ontology/Datatype"), (.array (.object "com/example/consistent_answers/consistentanswers/ontology/Datatype"))]
  resolved := Array.replicate 222 none
  statics := some 0 }

def pool7 : Array CpInfo := pool [(1, u "java/lang/Cloneable"), (0, .class_ 1), (0, u "java/lang/Object"), (0, .class_ 3)] 3

/-- java/lang/Cloneable -/
def k7 : Class := { plain "java/lang/Cloneable" (some 0) with
  accessFlags := 1537
  interfaces := #[]
  cf := some (fileOf pool7 2 #[] #[] 1537 4 #[] #[])
  fields := #[]
  methods := #[]
  instanceTypes := #[]
  staticTypes := #[]
  resolved := Array.replicate 8 none
  statics := none }

/-- the primitive byte -/
def k8 : Class := { plain "byte" none with kind := .primitive 'B', accessFlags := 0x411 }
/-- [B -/
def k9 : Class := { plain "[B" (some 0) with kind := .array 8 .byte, interfaces := #[7, 4], accessFlags := 1041 }

/-- the primitive int -/
def k10 : Class := { plain "int" none with kind := .primitive 'I', accessFlags := 0x411 }
/-- [I -/
def k11 : Class := { plain "[I" (some 0) with kind := .array 10 .int, interfaces := #[7, 4], accessFlags := 1041 }

/-- [Lcom/example/consistent_answers/consistentanswers/ontology/Datatype; -/
def k12 : Class := { plain "[Lcom/example/consistent_answers/consistentanswers/ontology/Datatype;" (some 0) with kind := .array 6 (.object "com/example/consistent_answers/consistentanswers/ontology/Datatype"), interfaces := #[7, 4], accessFlags := 1041 }

def heap : Heap := #[{ cls := 6, slots := #[.ref 1, .ref 2, .ref 3, .ref 4, .ref 5, .ref 6, .ref 7, .ref 8, .ref 9, .ref 10, .ref 11, .ref 12, .ref 13, .ref 14, .ref 15, .ref 16, .ref 17, .ref 18, .ref 19, .null], vm := .statics 6 },
  { cls := 6, slots := #[.null, .int 0, .int 0, .null, .null], vm := .none },
  { cls := 6, slots := #[.null, .int 1, .int 0, .null, .ref 1], vm := .none },
  { cls := 6, slots := #[.null, .int 2, .int 0, .null, .ref 2], vm := .none },
  { cls := 6, slots := #[.null, .int 3, .int 0, .null, .ref 3], vm := .none },
  { cls := 6, slots := #[.null, .int 4, .int 0, .null, .ref 4], vm := .none },
  { cls := 6, slots := #[.null, .int 5, .int 0, .null, .ref 5], vm := .none },
  { cls := 6, slots := #[.null, .int 6, .int 0, .null, .ref 6], vm := .none },
  { cls := 6, slots := #[.null, .int 7, .int 0, .null, .ref 7], vm := .none },
  { cls := 6, slots := #[.null, .int 8, .int 0, .null, .ref 1], vm := .none },
  { cls := 6, slots := #[.null, .int 9, .int 0, .null, .ref 9], vm := .none },
  { cls := 6, slots := #[.null, .int 10, .int 0, .null, .ref 10], vm := .none },
  { cls := 6, slots := #[.null, .int 11, .int 0, .null, .ref 11], vm := .none },
  { cls := 6, slots := #[.null, .int 12, .int 0, .null, .ref 12], vm := .none },
  { cls := 6, slots := #[.null, .int 13, .int 0, .null, .ref 1], vm := .none },
  { cls := 6, slots := #[.null, .int 14, .int 0, .null, .ref 14], vm := .none },
  { cls := 6, slots := #[.null, .int 15, .int 0, .null, .ref 1], vm := .none },
  { cls := 6, slots := #[.null, .int 16, .int 0, .null, .ref 1], vm := .none },
  { cls := 6, slots := #[.null, .int 17, .int 0, .null, .ref 1], vm := .none },
  { cls := 6, slots := #[.null, .int 18, .int 0, .null, .ref 1], vm := .none }]
def classes : Array Class := #[k0, k1, k2, k3, k4, k5, k6, k7, k8, k9, k10, k11, k12]
def interned : List (Array UInt16 × Addr) := []
def slotsUsed : Nat := 115
def theMethod : MethodId := ⟨1, 3⟩
def args0 : Array Value := #[.int 5, .int 300]
def aboutOver (below : List Frame) : State where
  vm := { classes := classes, interned := interned.toArray }
  heap := heap
  slotsUsed := slotsUsed
  threads := #[{ frames := .invoking theMethod args0 :: below }]
def below0 : List Frame := [.native { method := ⟨0, 0⟩, args := #[] }]
def about1 : State := aboutOver below0
def p0 : Program := .bare "" "" ""
def e0 : Env := launch0.env 0 0 0
theorem w_frames : about1.frames = Frame.invoking theMethod args0 :: below0 := rfl
set_option maxRecDepth 65536 in
theorem w_args : argsFit about1.vm theMethod args0 = true := by decide +kernel
set_option maxRecDepth 65536 in
theorem w_heap : heapFits about1 = true := by decide +kernel
set_option maxRecDepth 65536 in
theorem w_runnable : about1.curStatus? = some .runnable := by decide +kernel
set_option maxRecDepth 65536 in
theorem w_alone : about1.alone = true := by decide +kernel
set_option maxRecDepth 65536 in
theorem w_named : about1.methodNamed? x = some theMethod := by decide +kernel
set_option maxRecDepth 65536 in
theorem w_hears : about1.hears theMethod below0 = true := by decide +kernel
set_option maxRecDepth 65536 in
theorem w_ripe : about1.ripe theMethod args0 below0 = true := by decide +kernel
theorem w_running : about1.status = .running := rfl
set_option maxRecDepth 65536 in
theorem w_room : about1.hasRoom e0.platform room_1 = true :=
  launch0.hasRoom_least _ room_1 (by decide +kernel) (by decide +kernel) (by decide +kernel) (by decide +kernel) (by decide +kernel) (by decide +kernel)
theorem allAtoms_all (ts : List Jvm.Cond) (a : Array Jvm.Value) (st : Jvm.State) : (allAtoms ts).before a st = ts.all (fun c => c.before a st) := by
  induction ts with
  | nil => rfl
  | cons c t ih =>
    show (Jvm.Cond.and c (allAtoms t)).before a st = _
    rw [Jvm.Cond.before_and, ih, List.all_cons]
def words1 : List Jvm.Cond := Jvm.Cond.code x code maxLocals ret :: tables_1
/-- a 'code' word, met by the world's own term for the bytes: nothing is compared byte by byte -/
theorem code_word {y : MethodName} {bytes : ByteArray} {mx : Nat} {rt : Option FieldType} {a : Array Value} {s : State} {m : MethodId} {meth : Method} {c : Code} (h1 : s.methodNamed? y = some m) (h2 : s.vm.method? m = some meth) (h3 : meth.code = some c) (h4 : c.code = bytes)
    (h5 : (c.maxLocals == mx && c.exceptionTable.isEmpty && decide (c.maxStack ≤ mostOperands) && decide (meth.sig.returnType = rt) && !meth.locks && decide (parseMethodDescriptor y.desc = some meth.sig)) = true) : (Jvm.Cond.code y bytes mx rt).before a s = true := by
  simp only [Bool.and_eq_true, beq_iff_eq, Bool.not_eq_true', decide_eq_true_eq] at h5
  obtain ⟨⟨⟨⟨⟨g1, g2⟩, g3⟩, g4⟩, g5⟩, g6⟩ := h5
  simp [Cond.before, Cond.holds, Cond.value, h1, h2, h3, h4, g1, g2, g3, g4, g5, g6]
def isCode : Jvm.Cond → Bool
  | .code _ _ _ _ => true
  | _ => false
theorem all_split {L : List Jvm.Cond} {P : Jvm.Cond → Bool} (h1 : L.all (fun c => isCode c || P c) = true) (h2 : ∀ c ∈ L.filter isCode, P c = true) : L.all P = true := by
  refine List.all_eq_true.mpr fun c hc => ?_
  have h := List.all_eq_true.mp h1 c hc
  rcases Bool.eq_false_or_eq_true (isCode c) with hi | hi
  · exact h2 c (List.mem_filter.mpr ⟨hc, hi⟩)
  · simpa [hi] using h
set_option maxRecDepth 65536 in
theorem w_c0 : (Jvm.Cond.code x code maxLocals ret).before args0 about1 = true := code_word (m := ⟨1, 3⟩) (meth := k1m3) (c := k1c3) (by decide +kernel) rfl rfl rfl (by decide +kernel)
set_option maxRecDepth 65536 in
theorem w_c1 : (Jvm.Cond.code ({ cls := "com/example/consistent_answers/consistentanswers/ontology/Datatype", name := "isWithin", desc := "(Lcom/example/consistent_answers/consistentanswers/ontology/Datatype;)Z" } : Jvm.MethodName) prog_8_method_6_code (3 : Nat) (Option.some Jvm.ClassFile.FieldType.boolean)).before args0 about1 = true := code_word (m := ⟨6, 0⟩) (meth := k6m0) (c := k6c0) (by decide +kernel) rfl rfl rfl (by decide +kernel)
set_option maxRecDepth 65536 in
theorem w_c2 : (Jvm.Cond.code ({ cls := "com/example/consistent_answers/consistentanswers/ontology/DatatypeIsWithinPinLaw", name := "chain", desc := "(I)I" } : Jvm.MethodName) method_2_code (1 : Nat) (Option.some Jvm.ClassFile.FieldType.int)).before args0 about1 = true := code_word (m := ⟨1, 1⟩) (meth := k1m1) (c := k1c1) (by decide +kernel) rfl rfl rfl (by decide +kernel)
set_option maxRecDepth 65536 in
theorem w_c3 : (Jvm.Cond.code ({ cls := "com/example/consistent_answers/consistentanswers/ontology/DatatypeIsWithinPinLaw", name := "depth", desc := "(I)I" } : Jvm.MethodName) method_3_code (1 : Nat) (Option.some Jvm.ClassFile.FieldType.int)).before args0 about1 = true := code_word (m := ⟨1, 2⟩) (meth := k1m2) (c := k1c2) (by decide +kernel) rfl rfl rfl (by decide +kernel)
def codes1 : List Jvm.Cond := [Jvm.Cond.code x code maxLocals ret, Jvm.Cond.code ({ cls := "com/example/consistent_answers/consistentanswers/ontology/Datatype", name := "isWithin", desc := "(Lcom/example/consistent_answers/consistentanswers/ontology/Datatype;)Z" } : Jvm.MethodName) prog_8_method_6_code (3 : Nat) (Option.some Jvm.ClassFile.FieldType.boolean), Jvm.Cond.code ({ cls := "com/example/consistent_answers/consistentanswers/ontology/DatatypeIsWithinPinLaw", name := "chain", desc := "(I)I" } : Jvm.MethodName) method_2_code (1 : Nat) (Option.some Jvm.ClassFile.FieldType.int), Jvm.Cond.code ({ cls := "com/example/consistent_answers/consistentanswers/ontology/DatatypeIsWithinPinLaw", name := "depth", desc := "(I)I" } : Jvm.MethodName) method_3_code (1 : Nat) (Option.some Jvm.ClassFile.FieldType.int)]
set_option maxRecDepth 65536 in
theorem codes_eq : words1.filter isCode = codes1 := rfl
theorem w_codes : ∀ c ∈ words1.filter isCode, c.before args0 about1 = true := by
  rw [codes_eq]
  intro c hc
  simp only [codes1, List.mem_cons, List.not_mem_nil, or_false] at hc
  rcases hc with rfl | rfl | rfl | rfl
  · exact w_c0
  · exact w_c1
  · exact w_c2
  · exact w_c3
set_option maxRecDepth 65536 in
theorem w_t1 : (words1.take 24).all (fun c => isCode c || c.before args0 about1) = true := by decide +kernel
set_option maxRecDepth 65536 in
theorem w_t2 : ((words1.drop 24).take 24).all (fun c => isCode c || c.before args0 about1) = true := by decide +kernel
set_option maxRecDepth 65536 in
theorem w_t3 : ((words1.drop 24).drop 24).all (fun c => isCode c || c.before args0 about1) = true := by decide +kernel
theorem w_tables : (allAtoms (Jvm.Cond.code x code maxLocals ret :: tables_1)).before args0 about1 = true := by
  rw [allAtoms_all]
  show words1.all (fun c => c.before args0 about1) = true
  refine all_split ?_ w_codes
  rw [← List.take_append_drop 24 words1, List.all_append, w_t1, ← List.take_append_drop 24 (words1.drop 24), List.all_append, w_t2, w_t3]
  rfl
set_option maxRecDepth 65536 in
theorem w_case : (Jvm.Cond.and given_1 narrow_1).before args0 about1 = true := by decide +kernel
theorem w_applies : (headSpec (Jvm.Cond.code x code maxLocals ret :: tables_1) room_1).applies x e0.platform about1 = true :=
  (Spec.applies_iff w_frames).mpr ⟨w_running, w_runnable, w_alone, w_named, w_hears, w_ripe, w_room, w_tables⟩
theorem atStart : AtStart classFile x code maxLocals ret World_1 tables_1 room_1 Calls_1 rest_1 Pre_1 launch0 p0 e0 about1 theMethod args0 below0 :=
  ⟨lists_1, trivial, launch0.admits_env _ _ _, launch0.least_env, fairChoices_fair.cas, fairChoices_fair.clock, w_frames, w_args, w_heap, w_applies, trivial, trivial, w_case⟩
end start1
theorem witness_1 : WitnessClaimed_1 := ⟨start1.p0, start1.e0, start1.about1, start1.theMethod, start1.args0, start1.below0, start1.atStart⟩
end Jvm.Pilot.@@N@@
