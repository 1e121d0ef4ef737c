import JvmDerived
import JvmDerived.Pilot.@@N@@Statement
import JvmDerived.Pilot.@@N@@Code
set_option linter.unusedVariables false
set_option linter.unusedSimpArgs false
@@BLOCK:NumsL.lean.txt@@
namespace Jvm.RoadKit
open Sem ClassFile Op Lib Jvm.Stand Jvm.Free Jvm.LawKit
section New
variable {p : Program} {l : Launch} {e : Env} {R : Room} {s : State} {m : MethodId} {args : Array Value} {below : List Frame} {meth : Method} {c : Code} {T : State} {locs : List Loc} {cells slots : Nat}
theorem retI (X : Stand p l e R s m args below meth c T locs cells slots) (hx : p.tables.exec = Jvm.exec) {pc : Nat} {Ls : Array Slot} {z : Int32} {rest : List Value} (hret : meth.sig.returnType = some .int) (hd : decode c.code pc = .ok (.ireturn, 1)) {fs : List Frame}
    (hl : ∀ (f : JFrame) (acts : List Action), f.method = m → f.locked = none → f.entered = [] → (doReturn e (T.setTop f) acts (some (.int z))).1 = T.setFrames fs) : Steps p.tables e below (T.setTop (mkF m pc Ls (.int z :: rest))) (T.setFrames fs) := by
  have hm' : T.vm.method? m = some meth := X.method'
  have hn : narrow .int (.int z) = .int z := rfl
  show Steps p.tables e below (T.setTop { method := m, pc := pc, locals := Ls, stack := _ :: rest, locked := none }) _
  jvm_step X.here [X.here.top, hx, hd, hm', hret, hn]
  first | (intro acts; rw [hl _ acts rfl rfl rfl]) | rw [hl _ _ rfl rfl rfl]
  exact Steps.refl _
end New
end Jvm.RoadKit
namespace Jvm.Pilot.@@N@@
open Jvm Jvm.ClassFile Sem Op Lib Jvm.Free Jvm.Stand Jvm.LawKit Jvm.RoadKit Bundle Jvm.Pilot.@@N@@.Jvm.D
section Own
variable {p : Program} {l : Launch} {e : Env} {R : Room} {s : State} {m : MethodId} {args : Array Value} {below : List Frame} {meth : Method} {c : Code} {T T' : State} {locs : List Loc} {cells slots kc ks : Nat} {Q : Option Value → Heap → List Loc → Prop} {g g' : JFrame}
/-- From the frame g over T the body comes to its return, with what Q says of the value, the heap and the places written. -/
def own_Ends (p : Program) (e : Env) (below : List Frame) (s : State) (Q : Option Value → Heap → List Loc → Prop) (kc ks : Nat) (T : State) (g : JFrame) : Prop :=
  ∃ s₂ o, Steps p.tables e below (T.setTop g) s₂ ∧ s₂.status = .running ∧ Ended s₂ below o ∧ ∃ v L, o = .returned v ∧ Q v s₂.heap L ∧ FrameEnd s o s₂ L kc ks
theorem own_st (h : ∀ target, Steps p.tables e below (T'.setTop g') target → Steps p.tables e below (T.setTop g) target) (k : own_Ends p e below s Q kc ks T' g') : own_Ends p e below s Q kc ks T g := by
  obtain ⟨s₂, o, h1, r⟩ := k
  exact ⟨s₂, o, h _ h1, r⟩
theorem own_tr (h : Steps p.tables e below (T.setTop g) (T'.setTop g')) (k : own_Ends p e below s Q kc ks T' g') : own_Ends p e below s Q kc ks T g :=
  own_st (fun _ q => h.trans q) k
theorem own_retN (X : Stand p l e R s m args below meth c T locs cells slots) (hx : p.tables.exec = Jvm.exec) {pc : Nat} {Ls : Array Slot} {z w : Int32} {t : FieldType} {rest : List Value} (hret : meth.sig.returnType = some t) (ht : t = .boolean ∨ t = .byte ∨ t = .char ∨ t = .short)
    (hd : decode c.code pc = .ok (.ireturn, 1)) (hlk : meth.locks = false) (hc : cells ≤ kc) (hs : slots ≤ ks) (hw : nar t z = w) (hQ : Q (some (.int w)) T.heap locs) : own_Ends p e below s Q kc ks T (mkF m pc Ls (.int z :: rest)) := by
  obtain ⟨fs, hr, hrun, hended, hW, hsame⟩ := X.leave (v := some (.int (nar t z))) (fun h => by rw [hret] at h; cases h) hlk
  subst hw
  exact ⟨_, _, retN X hx hret ht hd hr, hrun, hended, _, _, rfl, hQ, ⟨_, rfl⟩, hW, hsame.mono hc hs⟩
theorem own_retI (X : Stand p l e R s m args below meth c T locs cells slots) (hx : p.tables.exec = Jvm.exec) {pc : Nat} {Ls : Array Slot} {z : Int32} {rest : List Value} (hret : meth.sig.returnType = some .int)
    (hd : decode c.code pc = .ok (.ireturn, 1)) (hlk : meth.locks = false) (hc : cells ≤ kc) (hs : slots ≤ ks) (hQ : Q (some (.int z)) T.heap locs) : own_Ends p e below s Q kc ks T (mkF m pc Ls (.int z :: rest)) := by
  obtain ⟨fs, hr, hrun, hended, hW, hsame⟩ := X.leave (v := some (.int z)) (fun h => by rw [hret] at h; cases h) hlk
  exact ⟨_, _, retI X hx hret hd hr, hrun, hended, _, _, rfl, hQ, ⟨_, rfl⟩, hW, hsame.mono hc hs⟩
theorem own_retA (X : Stand p l e R s m args below meth c T locs cells slots) (hx : p.tables.exec = Jvm.exec) {pc : Nat} {Ls : Array Slot} {w : Value} {t : FieldType} {rest : List Value} (hret : meth.sig.returnType = some t) (ht : t.isReference = true) (hr : w.isRef = true) (hn : narrow t w = w)
    (hd : decode c.code pc = .ok (.areturn, 1)) (hlk : meth.locks = false) (hc : cells ≤ kc) (hs : slots ≤ ks) (hQ : Q (some w) T.heap locs) : own_Ends p e below s Q kc ks T (mkF m pc Ls (w :: rest)) := by
  obtain ⟨fs, hl, hrun, hended, hW, hsame⟩ := X.leave (v := some w) (fun h => by rw [hret] at h; cases h) hlk
  exact ⟨_, _, retOut X hx hret hn (Or.inr (Or.inr (Or.inr (Or.inr ⟨rfl, ht, hr⟩)))) hd hl, hrun, hended, _, _, rfl, hQ, ⟨_, rfl⟩, hW, hsame.mono hc hs⟩
theorem own_retV (X : Stand p l e R s m args below meth c T locs cells slots) (hx : p.tables.exec = Jvm.exec) {pc : Nat} {Ls : Array Slot} (hret : meth.sig.returnType = none)
    (hd : decode c.code pc = .ok (.return_, 1)) (hlk : meth.locks = false) (hc : cells ≤ kc) (hs : slots ≤ ks) (hQ : Q none T.heap locs) : own_Ends p e below s Q kc ks T (mkF m pc Ls []) := by
  obtain ⟨fs, hr, hrun, hended, hW, hsame⟩ := X.leave (v := none) (fun _ => rfl) hlk
  exact ⟨_, _, X.returnOut hx hret hd hr, hrun, hended, _, _, rfl, hQ, ⟨_, rfl⟩, hW, hsame.mono hc hs⟩
end Own
section OwnFacts
variable {args : Array Value} {Z : State} {t t2 : Term} {x y : Addr} {C n d : String} {k : Int32}
theorem own_fldI (ev : t.eval args Z none [] Z = some (.ref x)) (h : (Cond.eq (.field t C n d) (.int k)).value args Z none Z [] = some true) : Fld Z Z.heap x C n d (.int k) := by
  obtain ⟨u, w, h1, h2, q, -⟩ := cmp_v (Or.inl h)
  cases (Term.int_eval k).symm.trans h2
  cases u <;> simp [Cond.value, h1, Term.int_eval] at h
  subst h
  exact Fld.start (by rw [← fld_at ev]; exact h1)
theorem own_fldN (ev : t.eval args Z none [] Z = some (.ref x)) (h : (Cond.eq (.field t C n d) .null).value args Z none Z [] = some true) : Fld Z Z.heap x C n d .null :=
  Fld.start (by rw [← fld_at ev]; exact null_v h)
theorem own_fldR (ev : t.eval args Z none [] Z = some (.ref x)) (ev2 : t2.eval args Z none [] Z = some (.ref y)) (h : (Cond.eq (.field t C n d) t2).value args Z none Z [] = some true) : Fld Z Z.heap x C n d (.ref y) := by
  obtain ⟨u, w, h1, h2, -, -⟩ := cmp_v (Or.inl h)
  cases ev2.symm.trans h2
  cases u <;> simp [Cond.value, h1, ev2] at h
  subst h
  exact Fld.start (by rw [← fld_at ev]; exact h1)
end OwnFacts
section OwnArr
variable {p : Program} {l : Launch} {e : Env} {R : Room} {s : State} {m : MethodId} {args : Array Value} {below : List Frame} {meth : Method} {c : Code} {T : State} {locs : List Loc} {cells slots : Nat} {Z : State} {h : Heap} {a y : Addr} {k : ClassId} {C : String} {z j : Int32} {vs : List Value}
theorem own_fill (X : Stand p l e R s m args below meth c T locs cells slots) (hx : p.tables.exec = Jvm.exec) (hZ : Z.Warmed39 s.vm) (eT : T.heap = h) (V : Arv Z h a k (.object C) z vs .null) (Ov : Ovr Z k C) (Iy : Ins Z h y C true) (i : Nat) (hj : j.toNatClampNeg = i) (hi : i < vs.length) (hjz : ¬ j < 0 ∧ j < z)
    {g : JFrame} (hg : g.method = m) {rest : List Value} (hs : g.stack = .ref y :: .int j :: .ref a :: rest) (hd : decode c.code g.pc = .ok (.aastore, 1)) :
    ∃ T' h', Stand p l e R s m args below meth c T' (locs ++ [⟨a, j.toNatClampNeg⟩]) cells slots ∧ T'.heap = h' ∧ Wr h h' a j.toNatClampNeg (.ref y) ∧ Arv Z h' a k (.object C) z (vs.set i (.ref y)) .null ∧
      ∀ target, Steps p.tables e below (T'.setTop { g with pc := g.pc + 1, stack := rest }) target → Steps p.tables e below (T.setTop g) target := by
  obtain ⟨cl, Ar, q, S, M, H, G⟩ := V
  obtain ⟨T', h', X', e', W, st⟩ := stR X hx hZ eT Ar (j := j) (inb_of S hjz) rfl (Sto.ofV Ar q Ov Iy) hg hs hd
  exact ⟨T', h', X', e', W, Arv.set Ar q S M H G rfl W i hj hi, st⟩
end OwnArr
section OwnWide
variable {p : Program} {l : Launch} {e : Env} {R : Room} {s : State} {vm : Vm} {nk : Nat} {m : MethodId} {args : Array Value} {below : List Frame} {meth : Method} {c : Code} {T T' : State} {locs : List Loc} {cells slots kc ks : Nat} {Q : Option Value → Heap → List Loc → Prop} {g g' : JFrame}
/-- own_Ends where a String constant may have been interned meanwhile. -/
def own_EndsW (p : Program) (e : Env) (below : List Frame) (s : State) (Q : Option Value → Heap → List Loc → Prop) (kc ks : Nat) (T : State) (g : JFrame) : Prop :=
  ∃ s₂ o, Steps p.tables e below (T.setTop g) s₂ ∧ s₂.status = .running ∧ Ended s₂ below o ∧ ∃ v L, o = .returned v ∧ Q v s₂.heap L ∧ ReturnedEndW s o s₂ L kc ks
theorem own_stW (h : ∀ target, Steps p.tables e below (T'.setTop g') target → Steps p.tables e below (T.setTop g) target) (k : own_EndsW p e below s Q kc ks T' g') : own_EndsW p e below s Q kc ks T g := by
  obtain ⟨s₂, o, h1, r⟩ := k
  exact ⟨s₂, o, h _ h1, r⟩
theorem own_trW (h : Steps p.tables e below (T.setTop g) (T'.setTop g')) (k : own_EndsW p e below s Q kc ks T' g') : own_EndsW p e below s Q kc ks T g :=
  own_stW (fun _ q => h.trans q) k
theorem own_retNW (X : Stand p l e R (s.setVm vm) m args below meth c T locs cells slots) (hS : s.Since vm nk) (hn : nk ≤ T.heap.size) (hx : p.tables.exec = Jvm.exec) {pc : Nat} {Ls : Array Slot} {z w : Int32} {t : FieldType} {rest : List Value} (hret : meth.sig.returnType = some t) (ht : t = .boolean ∨ t = .byte ∨ t = .char ∨ t = .short)
    (hd : decode c.code pc = .ok (.ireturn, 1)) (hlk : meth.locks = false) (hc : cells ≤ kc) (hs : slots ≤ ks) (hw : nar t z = w) (hQ : Q (some (.int w)) T.heap locs) : own_EndsW p e below s Q kc ks T (mkF m pc Ls (.int z :: rest)) := by
  obtain ⟨fs, hr, hrun, hended, hE⟩ := X.leaveW hS hn (v := some (.int (nar t z))) (fun h => by rw [hret] at h; cases h) hlk
  subst hw
  exact ⟨_, _, retN X hx hret ht hd hr, hrun, hended, _, _, rfl, hQ, hE.1, hE.2.1, hE.2.2.1, hE.2.2.2.mono hc hs⟩
theorem own_retIW (X : Stand p l e R (s.setVm vm) m args below meth c T locs cells slots) (hS : s.Since vm nk) (hn : nk ≤ T.heap.size) (hx : p.tables.exec = Jvm.exec) {pc : Nat} {Ls : Array Slot} {z : Int32} {rest : List Value} (hret : meth.sig.returnType = some .int)
    (hd : decode c.code pc = .ok (.ireturn, 1)) (hlk : meth.locks = false) (hc : cells ≤ kc) (hs : slots ≤ ks) (hQ : Q (some (.int z)) T.heap locs) : own_EndsW p e below s Q kc ks T (mkF m pc Ls (.int z :: rest)) := by
  obtain ⟨fs, hr, hrun, hended, hE⟩ := X.leaveW hS hn (v := some (.int z)) (fun h => by rw [hret] at h; cases h) hlk
  exact ⟨_, _, retI X hx hret hd hr, hrun, hended, _, _, rfl, hQ, hE.1, hE.2.1, hE.2.2.1, hE.2.2.2.mono hc hs⟩
theorem own_retAW (X : Stand p l e R (s.setVm vm) m args below meth c T locs cells slots) (hS : s.Since vm nk) (hn : nk ≤ T.heap.size) (hx : p.tables.exec = Jvm.exec) {pc : Nat} {Ls : Array Slot} {w : Value} {t : FieldType} {rest : List Value} (hret : meth.sig.returnType = some t) (ht : t.isReference = true) (hr : w.isRef = true) (hn' : narrow t w = w)
    (hd : decode c.code pc = .ok (.areturn, 1)) (hlk : meth.locks = false) (hc : cells ≤ kc) (hs : slots ≤ ks) (hQ : Q (some w) T.heap locs) : own_EndsW p e below s Q kc ks T (mkF m pc Ls (w :: rest)) := by
  obtain ⟨fs, hl, hrun, hended, hE⟩ := X.leaveW hS hn (v := some w) (fun h => by rw [hret] at h; cases h) hlk
  exact ⟨_, _, retOut X hx hret hn' (Or.inr (Or.inr (Or.inr (Or.inr ⟨rfl, ht, hr⟩)))) hd hl, hrun, hended, _, _, rfl, hQ, hE.1, hE.2.1, hE.2.2.1, hE.2.2.2.mono hc hs⟩
theorem own_retVW (X : Stand p l e R (s.setVm vm) m args below meth c T locs cells slots) (hS : s.Since vm nk) (hn : nk ≤ T.heap.size) (hx : p.tables.exec = Jvm.exec) {pc : Nat} {Ls : Array Slot} (hret : meth.sig.returnType = none)
    (hd : decode c.code pc = .ok (.return_, 1)) (hlk : meth.locks = false) (hc : cells ≤ kc) (hs : slots ≤ ks) (hQ : Q none T.heap locs) : own_EndsW p e below s Q kc ks T (mkF m pc Ls []) := by
  obtain ⟨fs, hr, hrun, hended, hE⟩ := X.leaveW hS hn (v := none) (fun _ => rfl) hlk
  exact ⟨_, _, X.returnOut hx hret hd hr, hrun, hended, _, _, rfl, hQ, hE.1, hE.2.1, hE.2.2.1, hE.2.2.2.mono hc hs⟩
end OwnWide
def own_W (Z : State) (rH rS : Addr) : Prop := Sta Z Z.heap "com/example/seatledger/seatledger/model/Policy" "HARD" "Lcom/example/seatledger/seatledger/model/Policy;" (.ref rH) ∧ Exa Z Z.heap rH "com/example/seatledger/seatledger/model/Policy" ∧ Sta Z Z.heap "com/example/seatledger/seatledger/model/Policy" "SOFT" "Lcom/example/seatledger/seatledger/model/Policy;" (.ref rS) ∧ Exa Z Z.heap rS "com/example/seatledger/seatledger/model/Policy" ∧ Fld Z Z.heap rH "com/example/seatledger/seatledger/model/Policy" "exceedable" "Z" (.int (0 : Int32)) ∧ Fld Z Z.heap rH "java/lang/Enum" "ordinal" "I" (.int (0 : Int32)) ∧ Fld Z Z.heap rS "java/lang/Enum" "ordinal" "I" (.int (1 : Int32)) ∧ Fld Z Z.heap rS "com/example/seatledger/seatledger/model/Policy" "exceedable" "Z" (.int (1 : Int32))
theorem own_wS {Z : State} {a0 : Array Value} (hw : ∀ d ∈ tables_1, d.before a0 Z = true) : ∀ a ∈ Bundle.stringAtoms, a.before a0 Z = true := by
  intro d hd
  have hd' : d ∈ [(Jvm.Cond.initialized "java/lang/String"), (Jvm.Cond.instantiable "java/lang/String" (4 : Nat)), (Jvm.Cond.arrayClass Jvm.ClassFile.FieldType.byte), (Jvm.Cond.laysFinal "java/lang/String" "java/lang/String" "value" "[B"), (Jvm.Cond.laysFinal "java/lang/String" "java/lang/String" "coder" "B"), (Jvm.Cond.soleField "java/lang/String" "value"), (Jvm.Cond.soleField "java/lang/String" "coder")] := hd
  simp only [List.mem_cons, List.not_mem_nil, or_false] at hd'
  rcases hd' with rfl | rfl | rfl | rfl | rfl | rfl | rfl
  · exact (hw _ (List.mem_of_getElem? (i := 8) rfl))
  · exact (hw _ (List.mem_of_getElem? (i := 9) rfl))
  · exact (hw _ (List.mem_of_getElem? (i := 10) rfl))
  · exact (hw _ (List.mem_of_getElem? (i := 11) rfl))
  · exact (hw _ (List.mem_of_getElem? (i := 12) rfl))
  · exact (hw _ (List.mem_of_getElem? (i := 13) rfl))
  · exact (hw _ (List.mem_of_getElem? (i := 14) rfl))
theorem pd_0 : parseMethodDescriptor "(Ljava/lang/String;JLcom/example/seatledger/seatledger/model/Policy;)V" = some ⟨[(.object "java/lang/String"), .long, (.object "com/example/seatledger/seatledger/model/Policy")], none⟩ := by decide +kernel
theorem pd_1 : parseMethodDescriptor "()V" = some ⟨[], none⟩ := by decide +kernel
theorem pd_2 : parseMethodDescriptor "(Ljava/lang/Object;Ljava/lang/String;)Ljava/lang/Object;" = some ⟨[(.object "java/lang/Object"), (.object "java/lang/String")], some (.object "java/lang/Object")⟩ := by decide +kernel
theorem pd_3 : parseMethodDescriptor "(J)Z" = some ⟨[.long], some .boolean⟩ := by decide +kernel
theorem pd_4 : parseMethodDescriptor "()Z" = some ⟨[], some .boolean⟩ := by decide +kernel
theorem d4_0 : decode jdk_31_method_11_code 0 = .ok (.aload_n 0, 1) := by decide +kernel
theorem d4_1 : decode jdk_31_method_11_code 1 = .ok (.ifnonnull 12, 3) := by decide +kernel
theorem d4_4 : decode jdk_31_method_11_code 4 = .ok (.new 84, 3) := by decide +kernel
theorem d4_7 : decode jdk_31_method_11_code 7 = .ok (.dup, 1) := by decide +kernel
theorem d4_8 : decode jdk_31_method_11_code 8 = .ok (.aload_n 1, 1) := by decide +kernel
theorem d4_9 : decode jdk_31_method_11_code 9 = .ok (.invokespecial 87, 3) := by decide +kernel
theorem d4_12 : decode jdk_31_method_11_code 12 = .ok (.athrow, 1) := by decide +kernel
theorem d4_13 : decode jdk_31_method_11_code 13 = .ok (.aload_n 0, 1) := by decide +kernel
theorem d4_14 : decode jdk_31_method_11_code 14 = .ok (.areturn, 1) := by decide +kernel
theorem pn_0 : plainName "java/util/Objects" = true := by first | (simp [plainName, overriddenIn]; done) | decide +kernel
theorem ef_rm_req (m : MethodId) (x0 : Addr) (x1 : Addr) : entryFrame m #[(.ref x0), (.ref x1)] 2 = mkF m 0 #[.val (.ref x0), .val (.ref x1)] [] := by first | (simp [entryFrame, mkF, argsToLocals, Value.category]; done) | rfl
def Q_rm_req (Z : State) (a1 : Addr) (a2 : Addr) (h0 : Heap) (n0 : Nat) (v : Option Value) (h : Heap) (L : List Loc) : Prop := v = some (.ref a1) ∧ Fr n0 L ∧ h = h0
set_option maxRecDepth 65536 in
set_option maxHeartbeats 40000000 in
theorem rm_req (l : Launch) (Z : State) (a0 : Array Value) (hw : ∀ d ∈ tables_1, d.before a0 Z = true) (ws : List Jvm.Cond) (a1 : Addr) (a2 : Addr) (h0 : Heap) (n0 : Nat) (O0 : Old Z n0 h0) :
    MetFree l (⟨"java/util/Objects", "requireNonNull", "(Ljava/lang/Object;Ljava/lang/String;)Ljava/lang/Object;"⟩ : MethodName) (head1 (Jvm.Cond.code (⟨"java/util/Objects", "requireNonNull", "(Ljava/lang/Object;Ljava/lang/String;)Ljava/lang/Object;"⟩ : MethodName) jdk_31_method_11_code 2 (some (.object "java/lang/Object")) :: ws) ({ frames := 0, cells := 0, slots := 0, locals := 0 } : Room)) (fun a U => a = #[(.ref a1), (.ref a2)] ∧ Z.Warmed39 U.vm ∧ U.heap = h0) (fun _ _ _ _ _ => True) (fun _ U o U' => ∃ v L, o = .returned v ∧ Q_rm_req Z a1 a2 h0 n0 v U'.heap L ∧ FrameEnd U o U' L ({ frames := 0, cells := 0, slots := 0, locals := 0 } : Room).cells ({ frames := 0, cells := 0, slots := 0, locals := 0 } : Room).slots) := by
  refine MetFree.of_bodySF (plainFor_of_name pn_0) hisR ?_
  intro p e s m args below meth c s₁ Bd hml0 hP hK
  obtain ⟨rfl, hZ, hh⟩ := hP
  have hx := Bd.exec
  have hby := Bd.bytes
  have hml : c.maxLocals = 2 := hml0
  have hown : s.vm.findClass "java/util/Objects" = some m.cls := findClass_of_methodNamed Bd.named
  have hnm := (name_of_methodNamed Bd.named Bd.method).1
  have hlk := BodyLoose.notSynchronized Bd
  have X0 : Stand p l e ({ frames := 0, cells := 0, slots := 0, locals := 0 } : Room) s m #[(.ref a1), (.ref a2)] below meth c s₁ [] 0 0 := Stand.of_body Bd
  have e0 : s₁.heap = h0 := by rw [← hh, Bd.state]; rfl
  have N0 := Fr.nil n0
  show own_Ends p e below s (Q_rm_req Z a1 a2 h0 n0) ({ frames := 0, cells := 0, slots := 0, locals := 0 } : Room).cells ({ frames := 0, cells := 0, slots := 0, locals := 0 } : Room).slots s₁ (entryFrame m #[(.ref a1), (.ref a2)] 2)
  rw [ef_rm_req m a1 a2]
  show own_Ends _ _ _ _ _ _ _ s₁ (mkF m 0 #[.val (.ref a1), .val (.ref a2)] [])
  refine own_st (fun _ kq => XS.aloadN X0.here hx rfl (hb hby d4_0) rfl rfl kq) ?_
  show own_Ends _ _ _ _ _ _ _ s₁ (mkF m 1 #[.val (.ref a1), .val (.ref a2)] [(.ref a1)])
  refine own_st (fun _ kq => XS.ifnonnullYes X0.here hx rfl (pc0 := 1) (pc' := 13) rfl (hb hby d4_1) rfl (by decide) (by decide) kq) ?_
  show own_Ends _ _ _ _ _ _ _ s₁ (mkF m 13 #[.val (.ref a1), .val (.ref a2)] [])
  refine own_st (fun _ kq => XS.aloadN X0.here hx rfl (hb hby d4_13) rfl rfl kq) ?_
  show own_Ends _ _ _ _ _ _ _ s₁ (mkF m 14 #[.val (.ref a1), .val (.ref a2)] [(.ref a1)])
  refine own_retA X0 hx Bd.returns rfl rfl rfl (hb hby d4_14) hlk (by decide) (by decide) ?_
  show Q_rm_req Z a1 a2 h0 n0 _ s₁.heap _
  rw [e0]
  exact ⟨rfl, N0, rfl⟩
theorem d2_0 : decode jdk_30_method_1_code 0 = .ok (.aload_n 0, 1) := by decide +kernel
theorem d2_1 : decode jdk_30_method_1_code 1 = .ok (.invokespecial 1, 3) := by decide +kernel
theorem d2_4 : decode jdk_30_method_1_code 4 = .ok (.return_, 1) := by decide +kernel
theorem pn_1 : plainName "java/lang/Record" = true := by first | (simp [plainName, overriddenIn]; done) | decide +kernel
theorem ef_rm_rec (m : MethodId) (x0 : Addr) : entryFrame m #[(.ref x0)] 1 = mkF m 0 #[.val (.ref x0)] [] := by first | (simp [entryFrame, mkF, argsToLocals, Value.category]; done) | rfl
def Q_rm_rec (Z : State) (a1 : Addr) (h0 : Heap) (n0 : Nat) (v : Option Value) (h : Heap) (L : List Loc) : Prop := v = none ∧ Fr n0 L ∧ h = h0
set_option maxRecDepth 65536 in
set_option maxHeartbeats 40000000 in
theorem rm_rec (l : Launch) (Z : State) (a0 : Array Value) (hw : ∀ d ∈ tables_1, d.before a0 Z = true) (ws : List Jvm.Cond) (a1 : Addr) (h0 : Heap) (n0 : Nat) (O0 : Old Z n0 h0) :
    MetFree l (⟨"java/lang/Record", "<init>", "()V"⟩ : MethodName) (head1 (Jvm.Cond.code (⟨"java/lang/Record", "<init>", "()V"⟩ : MethodName) jdk_30_method_1_code 1 none :: ws) ({ frames := 1, cells := 0, slots := 0, locals := 12 } : Room)) (fun a U => a = #[(.ref a1)] ∧ Z.Warmed39 U.vm ∧ U.heap = h0) (fun _ _ _ _ _ => True) (fun _ U o U' => ∃ v L, o = .returned v ∧ Q_rm_rec Z a1 h0 n0 v U'.heap L ∧ FrameEnd U o U' L ({ frames := 1, cells := 0, slots := 0, locals := 12 } : Room).cells ({ frames := 1, cells := 0, slots := 0, locals := 12 } : Room).slots) := by
  refine MetFree.of_bodySF (plainFor_of_name pn_1) hisR ?_
  intro p e s m args below meth c s₁ Bd hml0 hP hK
  obtain ⟨rfl, hZ, hh⟩ := hP
  have hx := Bd.exec
  have hby := Bd.bytes
  have hml : c.maxLocals = 1 := hml0
  have hown : s.vm.findClass "java/lang/Record" = some m.cls := findClass_of_methodNamed Bd.named
  have hnm := (name_of_methodNamed Bd.named Bd.method).1
  have hlk := BodyLoose.notSynchronized Bd
  have X0 : Stand p l e ({ frames := 1, cells := 0, slots := 0, locals := 12 } : Room) s m #[(.ref a1)] below meth c s₁ [] 0 0 := Stand.of_body Bd
  have e0 : s₁.heap = h0 := by rw [← hh, Bd.state]; rfl
  have N0 := Fr.nil n0
  show own_Ends p e below s (Q_rm_rec Z a1 h0 n0) ({ frames := 1, cells := 0, slots := 0, locals := 12 } : Room).cells ({ frames := 1, cells := 0, slots := 0, locals := 12 } : Room).slots s₁ (entryFrame m #[(.ref a1)] 1)
  rw [ef_rm_rec m a1]
  show own_Ends _ _ _ _ _ _ _ s₁ (mkF m 0 #[.val (.ref a1)] [])
  refine own_st (fun _ kq => XS.aloadN X0.here hx rfl (hb hby d2_0) rfl rfl kq) ?_
  show own_Ends _ _ _ _ _ _ _ s₁ (mkF m 1 #[.val (.ref a1)] [(.ref a1)])
  obtain ⟨T1, X1, e1, st1⟩ := initO X0 hx hZ hown (hw _ (List.mem_of_getElem? (i := 23) rfl)) (hw _ (List.mem_of_getElem? (i := 24) rfl)) (hw _ (List.mem_of_getElem? (i := 25) rfl)) e0 (g := (mkF m 1 #[.val (.ref a1)] [(.ref a1)])) rfl (by rw [hml]; rfl) rfl (hb hby d2_1) (by decide) (W := 0) (by show 2 * 0 + _ ≤ _; exact Nat.le_of_eq rfl) (by decide)
  refine own_st st1 ?_
  show own_Ends _ _ _ _ _ _ _ T1 (mkF m 4 #[.val (.ref a1)] [])
  refine own_retV X1 hx Bd.returns (hb hby d2_4) hlk (by decide) (by decide) ?_
  show Q_rm_rec Z a1 h0 n0 _ T1.heap _
  rw [e1]
  exact ⟨rfl, N0, rfl⟩
theorem d6_0 : decode prog_10_method_5_code 0 = .ok (.aload_n 0, 1) := by decide +kernel
theorem d6_1 : decode prog_10_method_5_code 1 = .ok (.getfield 33, 3) := by decide +kernel
theorem d6_4 : decode prog_10_method_5_code 4 = .ok (.ireturn, 1) := by decide +kernel
theorem pn_2 : plainName "com/example/seatledger/seatledger/model/Policy" = true := by first | (simp [plainName, overriddenIn]; done) | decide +kernel
theorem ef_rm_excH (m : MethodId) (x0 : Addr) : entryFrame m #[(.ref x0)] 1 = mkF m 0 #[.val (.ref x0)] [] := by first | (simp [entryFrame, mkF, argsToLocals, Value.category]; done) | rfl
def Q_rm_excH (Z : State) (rH : Addr) (rS : Addr) (h0 : Heap) (n0 : Nat) (v : Option Value) (h : Heap) (L : List Loc) : Prop := v = some (.int 0) ∧ Fr n0 L ∧ h = h0
set_option maxRecDepth 65536 in
set_option maxHeartbeats 40000000 in
theorem rm_excH (l : Launch) (Z : State) (a0 : Array Value) (hw : ∀ d ∈ tables_1, d.before a0 Z = true) (ws : List Jvm.Cond) (rH : Addr) (rS : Addr) (h0 : Heap) (n0 : Nat) (O0 : Old Z n0 h0) (G : own_W Z rH rS) :
    MetFree l (⟨"com/example/seatledger/seatledger/model/Policy", "exceedable", "()Z"⟩ : MethodName) (head1 (Jvm.Cond.code (⟨"com/example/seatledger/seatledger/model/Policy", "exceedable", "()Z"⟩ : MethodName) prog_10_method_5_code 1 (some .boolean) :: ws) ({ frames := 0, cells := 0, slots := 0, locals := 0 } : Room)) (fun a U => a = #[(.ref rH)] ∧ Z.Warmed39 U.vm ∧ U.heap = h0) (fun _ _ _ _ _ => True) (fun _ U o U' => ∃ v L, o = .returned v ∧ Q_rm_excH Z rH rS h0 n0 v U'.heap L ∧ FrameEnd U o U' L ({ frames := 0, cells := 0, slots := 0, locals := 0 } : Room).cells ({ frames := 0, cells := 0, slots := 0, locals := 0 } : Room).slots) := by
  refine MetFree.of_bodySF (plainFor_of_name pn_2) hisR ?_
  intro p e s m args below meth c s₁ Bd hml0 hP hK
  obtain ⟨rfl, hZ, hh⟩ := hP
  have hx := Bd.exec
  have hby := Bd.bytes
  have hml : c.maxLocals = 1 := hml0
  have hown : s.vm.findClass "com/example/seatledger/seatledger/model/Policy" = some m.cls := findClass_of_methodNamed Bd.named
  have hnm := (name_of_methodNamed Bd.named Bd.method).1
  have hlk := BodyLoose.notSynchronized Bd
  have X0 : Stand p l e ({ frames := 0, cells := 0, slots := 0, locals := 0 } : Room) s m #[(.ref rH)] below meth c s₁ [] 0 0 := Stand.of_body Bd
  have e0 : s₁.heap = h0 := by rw [← hh, Bd.state]; rfl
  have N0 := Fr.nil n0
  show own_Ends p e below s (Q_rm_excH Z rH rS h0 n0) ({ frames := 0, cells := 0, slots := 0, locals := 0 } : Room).cells ({ frames := 0, cells := 0, slots := 0, locals := 0 } : Room).slots s₁ (entryFrame m #[(.ref rH)] 1)
  rw [ef_rm_excH m rH]
  have G' := G
  obtain ⟨S_H, E_H, S_S, E_S, F_H_exceedable, F_H_ordinal, F_S_ordinal, F_S_exceedable⟩ := G'
  show own_Ends _ _ _ _ _ _ _ s₁ (mkF m 0 #[.val (.ref rH)] [])
  refine own_st (fun _ kq => XS.aloadN X0.here hx rfl (hb hby d6_0) rfl rfl kq) ?_
  show own_Ends _ _ _ _ _ _ _ s₁ (mkF m 1 #[.val (.ref rH)] [(.ref rH)])
  obtain ⟨T1, X1, e1, st1⟩ := getF X0 hx hZ hown (host := "") (Or.inl (hw _ (List.mem_of_getElem? (i := 48) rfl))) Via.refl e0 (F_H_exceedable.ext O0.2) (g := (mkF m 1 #[.val (.ref rH)] [(.ref rH)])) rfl rfl (hb hby d6_1)
  refine own_st st1 ?_
  show own_Ends _ _ _ _ _ _ _ T1 (mkF m 4 #[.val (.ref rH)] [(.int (0 : Int32))])
  refine own_retN X1 hx (t := .boolean) Bd.returns (by simp) (hb hby d6_4) hlk (by decide) (by decide) (w := (0 : Int32)) (by decide) ?_
  show Q_rm_excH Z rH rS h0 n0 _ T1.heap _
  rw [e1]
  exact ⟨rfl, N0, rfl⟩
theorem ef_rm_excS (m : MethodId) (x0 : Addr) : entryFrame m #[(.ref x0)] 1 = mkF m 0 #[.val (.ref x0)] [] := by first | (simp [entryFrame, mkF, argsToLocals, Value.category]; done) | rfl
def Q_rm_excS (Z : State) (rH : Addr) (rS : Addr) (h0 : Heap) (n0 : Nat) (v : Option Value) (h : Heap) (L : List Loc) : Prop := v = some (.int 1) ∧ Fr n0 L ∧ h = h0
set_option maxRecDepth 65536 in
set_option maxHeartbeats 40000000 in
theorem rm_excS (l : Launch) (Z : State) (a0 : Array Value) (hw : ∀ d ∈ tables_1, d.before a0 Z = true) (ws : List Jvm.Cond) (rH : Addr) (rS : Addr) (h0 : Heap) (n0 : Nat) (O0 : Old Z n0 h0) (G : own_W Z rH rS) :
    MetFree l (⟨"com/example/seatledger/seatledger/model/Policy", "exceedable", "()Z"⟩ : MethodName) (head1 (Jvm.Cond.code (⟨"com/example/seatledger/seatledger/model/Policy", "exceedable", "()Z"⟩ : MethodName) prog_10_method_5_code 1 (some .boolean) :: ws) ({ frames := 0, cells := 0, slots := 0, locals := 0 } : Room)) (fun a U => a = #[(.ref rS)] ∧ Z.Warmed39 U.vm ∧ U.heap = h0) (fun _ _ _ _ _ => True) (fun _ U o U' => ∃ v L, o = .returned v ∧ Q_rm_excS Z rH rS h0 n0 v U'.heap L ∧ FrameEnd U o U' L ({ frames := 0, cells := 0, slots := 0, locals := 0 } : Room).cells ({ frames := 0, cells := 0, slots := 0, locals := 0 } : Room).slots) := by
  refine MetFree.of_bodySF (plainFor_of_name pn_2) hisR ?_
  intro p e s m args below meth c s₁ Bd hml0 hP hK
  obtain ⟨rfl, hZ, hh⟩ := hP
  have hx := Bd.exec
  have hby := Bd.bytes
  have hml : c.maxLocals = 1 := hml0
  have hown : s.vm.findClass "com/example/seatledger/seatledger/model/Policy" = some m.cls := findClass_of_methodNamed Bd.named
  have hnm := (name_of_methodNamed Bd.named Bd.method).1
  have hlk := BodyLoose.notSynchronized Bd
  have X0 : Stand p l e ({ frames := 0, cells := 0, slots := 0, locals := 0 } : Room) s m #[(.ref rS)] below meth c s₁ [] 0 0 := Stand.of_body Bd
  have e0 : s₁.heap = h0 := by rw [← hh, Bd.state]; rfl
  have N0 := Fr.nil n0
  show own_Ends p e below s (Q_rm_excS Z rH rS h0 n0) ({ frames := 0, cells := 0, slots := 0, locals := 0 } : Room).cells ({ frames := 0, cells := 0, slots := 0, locals := 0 } : Room).slots s₁ (entryFrame m #[(.ref rS)] 1)
  rw [ef_rm_excS m rS]
  have G' := G
  obtain ⟨S_H, E_H, S_S, E_S, F_H_exceedable, F_H_ordinal, F_S_ordinal, F_S_exceedable⟩ := G'
  show own_Ends _ _ _ _ _ _ _ s₁ (mkF m 0 #[.val (.ref rS)] [])
  refine own_st (fun _ kq => XS.aloadN X0.here hx rfl (hb hby d6_0) rfl rfl kq) ?_
  show own_Ends _ _ _ _ _ _ _ s₁ (mkF m 1 #[.val (.ref rS)] [(.ref rS)])
  obtain ⟨T1, X1, e1, st1⟩ := getF X0 hx hZ hown (host := "") (Or.inl (hw _ (List.mem_of_getElem? (i := 48) rfl))) Via.refl e0 (F_S_exceedable.ext O0.2) (g := (mkF m 1 #[.val (.ref rS)] [(.ref rS)])) rfl rfl (hb hby d6_1)
  refine own_st st1 ?_
  show own_Ends _ _ _ _ _ _ _ T1 (mkF m 4 #[.val (.ref rS)] [(.int (1 : Int32))])
  refine own_retN X1 hx (t := .boolean) Bd.returns (by simp) (hb hby d6_4) hlk (by decide) (by decide) (w := (1 : Int32)) (by decide) ?_
  show Q_rm_excS Z rH rS h0 n0 _ T1.heap _
  rw [e1]
  exact ⟨rfl, N0, rfl⟩
theorem d1_0 : decode prog_17_method_1_code 0 = .ok (.aload_n 0, 1) := by decide +kernel
theorem d1_1 : decode prog_17_method_1_code 1 = .ok (.invokespecial 1, 3) := by decide +kernel
theorem d1_4 : decode prog_17_method_1_code 4 = .ok (.aload_n 1, 1) := by decide +kernel
theorem d1_5 : decode prog_17_method_1_code 5 = .ok (.ldc 7, 2) := by decide +kernel
theorem d1_7 : decode prog_17_method_1_code 7 = .ok (.invokestatic 9, 3) := by decide +kernel
theorem d1_10 : decode prog_17_method_1_code 10 = .ok (.pop, 1) := by decide +kernel
theorem d1_11 : decode prog_17_method_1_code 11 = .ok (.aload 4, 2) := by decide +kernel
theorem d1_13 : decode prog_17_method_1_code 13 = .ok (.ldc 15, 2) := by decide +kernel
theorem d1_15 : decode prog_17_method_1_code 15 = .ok (.invokestatic 9, 3) := by decide +kernel
theorem d1_18 : decode prog_17_method_1_code 18 = .ok (.pop, 1) := by decide +kernel
theorem d1_19 : decode prog_17_method_1_code 19 = .ok (.lload_n 2, 1) := by decide +kernel
theorem d1_20 : decode prog_17_method_1_code 20 = .ok (.lconst 0, 1) := by decide +kernel
theorem d1_21 : decode prog_17_method_1_code 21 = .ok (.lcmp, 1) := by decide +kernel
theorem d1_22 : decode prog_17_method_1_code 22 = .ok (.ifCond .ge 17, 3) := by decide +kernel
theorem d1_25 : decode prog_17_method_1_code 25 = .ok (.new 17, 3) := by decide +kernel
theorem d1_28 : decode prog_17_method_1_code 28 = .ok (.dup, 1) := by decide +kernel
theorem d1_29 : decode prog_17_method_1_code 29 = .ok (.lload_n 2, 1) := by decide +kernel
theorem d1_30 : decode prog_17_method_1_code 30 = .ok (.invokedynamic 19, 5) := by decide +kernel
theorem d1_35 : decode prog_17_method_1_code 35 = .ok (.invokespecial 23, 3) := by decide +kernel
theorem d1_38 : decode prog_17_method_1_code 38 = .ok (.athrow, 1) := by decide +kernel
theorem d1_39 : decode prog_17_method_1_code 39 = .ok (.aload_n 0, 1) := by decide +kernel
theorem d1_40 : decode prog_17_method_1_code 40 = .ok (.aload_n 1, 1) := by decide +kernel
theorem d1_41 : decode prog_17_method_1_code 41 = .ok (.putfield 26, 3) := by decide +kernel
theorem d1_44 : decode prog_17_method_1_code 44 = .ok (.aload_n 0, 1) := by decide +kernel
theorem d1_45 : decode prog_17_method_1_code 45 = .ok (.lload_n 2, 1) := by decide +kernel
theorem d1_46 : decode prog_17_method_1_code 46 = .ok (.putfield 31, 3) := by decide +kernel
theorem d1_49 : decode prog_17_method_1_code 49 = .ok (.aload_n 0, 1) := by decide +kernel
theorem d1_50 : decode prog_17_method_1_code 50 = .ok (.aload 4, 2) := by decide +kernel
theorem d1_52 : decode prog_17_method_1_code 52 = .ok (.putfield 35, 3) := by decide +kernel
theorem d1_55 : decode prog_17_method_1_code 55 = .ok (.return_, 1) := by decide +kernel
theorem pn_3 : plainName "com/example/seatledger/seatledger/model/Volume" = true := by first | (simp [plainName, overriddenIn]; done) | decide +kernel
theorem ef_rm_init (m : MethodId) (x0 : Addr) (x1 : Addr) (x2 : Int64) (x3 : Addr) : entryFrame m #[(.ref x0), (.ref x1), (.long x2), (.ref x3)] 5 = mkF m 0 #[.val (.ref x0), .val (.ref x1), .val (.long x2), .second, .val (.ref x3)] [] := by first | (simp [entryFrame, mkF, argsToLocals, Value.category]; done) | rfl
def Q_rm_init (Z : State) (a1 : Addr) (a2 : Addr) (q1 : Int64) (a3 : Addr) (h0 : Heap) (n0 : Nat) (v : Option Value) (h : Heap) (L : List Loc) : Prop := v = none ∧ Fr n0 L ∧ Keep h0 h [a1] ∧ Old Z n0 h ∧ Exa Z h a1 "com/example/seatledger/seatledger/model/Volume" ∧ Fld Z h a1 "com/example/seatledger/seatledger/model/Volume" "capacity" "J" (.long q1) ∧ Fld Z h a1 "com/example/seatledger/seatledger/model/Volume" "policy" "Lcom/example/seatledger/seatledger/model/Policy;" (.ref a3)
set_option maxRecDepth 65536 in
set_option maxHeartbeats 40000000 in
theorem rm_init (l : Launch) (Z : State) (a0 : Array Value) (hw : ∀ d ∈ tables_1, d.before a0 Z = true) (ws : List Jvm.Cond) (a1 : Addr) (a2 : Addr) (q1 : Int64) (a3 : Addr) (h0 : Heap) (n0 : Nat) (O0 : Old Z n0 h0) (E1 : Exa Z h0 a1 "com/example/seatledger/seatledger/model/Volume") (F_name : Fld Z h0 a1 "com/example/seatledger/seatledger/model/Volume" "name" "Ljava/lang/String;" .null) (F_capacity : Fld Z h0 a1 "com/example/seatledger/seatledger/model/Volume" "capacity" "J" (.long (0 : Int64))) (F_policy : Fld Z h0 a1 "com/example/seatledger/seatledger/model/Volume" "policy" "Lcom/example/seatledger/seatledger/model/Policy;" .null) (g_a1 : n0 ≤ a1) (hq : ¬ q1 < 0) :
    MetFree l (⟨"com/example/seatledger/seatledger/model/Volume", "<init>", "(Ljava/lang/String;JLcom/example/seatledger/seatledger/model/Policy;)V"⟩ : MethodName) (head1 (Jvm.Cond.code (⟨"com/example/seatledger/seatledger/model/Volume", "<init>", "(Ljava/lang/String;JLcom/example/seatledger/seatledger/model/Policy;)V"⟩ : MethodName) prog_17_method_1_code 5 none :: ws) ({ frames := 2, cells := 4, slots := 48, locals := 40 } : Room)) (fun a U => a = #[(.ref a1), (.ref a2), (.long q1), (.ref a3)] ∧ Z.Warmed39 U.vm ∧ U.heap = h0) (fun _ _ _ _ _ => True) (fun _ U o U' => ∃ v L, o = .returned v ∧ Q_rm_init Z a1 a2 q1 a3 h0 n0 v U'.heap L ∧ ReturnedEndW U o U' L ({ frames := 2, cells := 4, slots := 48, locals := 40 } : Room).cells ({ frames := 2, cells := 4, slots := 48, locals := 40 } : Room).slots) := by
  refine MetFree.of_bodySF (plainFor_of_name pn_3) hisR ?_
  intro p e s m args below meth c s₁ Bd hml0 hP hK
  obtain ⟨rfl, hZ, hh⟩ := hP
  have hx := Bd.exec
  have hby := Bd.bytes
  have hml : c.maxLocals = 5 := hml0
  have hown : s.vm.findClass "com/example/seatledger/seatledger/model/Volume" = some m.cls := findClass_of_methodNamed Bd.named
  have hnm := (name_of_methodNamed Bd.named Bd.method).1
  have hlk := BodyLoose.notSynchronized Bd
  have X0 : Stand p l e ({ frames := 2, cells := 4, slots := 48, locals := 40 } : Room) s m #[(.ref a1), (.ref a2), (.long q1), (.ref a3)] below meth c s₁ [] 0 0 := Stand.of_body Bd
  have e0 : s₁.heap = h0 := by rw [← hh, Bd.state]; rfl
  have N0 := Fr.nil n0
  show own_EndsW p e below s (Q_rm_init Z a1 a2 q1 a3 h0 n0) ({ frames := 2, cells := 4, slots := 48, locals := 40 } : Room).cells ({ frames := 2, cells := 4, slots := 48, locals := 40 } : Room).slots s₁ (entryFrame m #[(.ref a1), (.ref a2), (.long q1), (.ref a3)] 5)
  rw [ef_rm_init m a1 a2 q1 a3]
  have X0 : Stand p l e ({ frames := 2, cells := 4, slots := 48, locals := 40 } : Room) (s.setVm s.vm) m #[(.ref a1), (.ref a2), (.long q1), (.ref a3)] below meth c s₁ [] 0 0 := X0
  have hS := (State.WarmedH.refl s).since 0
  have hk : 0 ≤ h0.size := Nat.zero_le _
  have hZ : Z.Warmed39 (s.setVm s.vm).vm := hZ
  have hown : (s.setVm s.vm).vm.findClass "com/example/seatledger/seatledger/model/Volume" = some m.cls := hown
  have kk : Keep h0 h0 [a1] := Keep.refl h0 [a1]
  have hq' : ¬ (lcmpW q1 (0 : Int64)) < (0 : Int32) := fun q => hq ((lw_lt _ _).mp q)
  show own_EndsW _ _ _ _ _ _ _ s₁ (mkF m 0 #[.val (.ref a1), .val (.ref a2), .val (.long q1), .second, .val (.ref a3)] [])
  refine own_stW (fun _ kq => XS.aloadN X0.here hx rfl (hb hby d1_0) rfl rfl kq) ?_
  show own_EndsW _ _ _ _ _ _ _ s₁ (mkF m 1 #[.val (.ref a1), .val (.ref a2), .val (.long q1), .second, .val (.ref a3)] [(.ref a1)])
  obtain ⟨_, _, ⟨T1, L1, k1, n1⟩, -, X1, ⟨Lc1, hQ1, l1, y1, z1⟩, st1⟩ := X0.specialBack hx (y := (⟨"java/lang/Record", "<init>", "()V"⟩ : MethodName)) rfl hown (mvT hZ (hw _ (List.mem_of_getElem? (i := 18) rfl))) (mvT hZ (hw _ (List.mem_of_getElem? (i := 19) rfl))) (mvT hZ (hw _ (List.mem_of_getElem? (i := 22) rfl))) (by decide) (backOf (W := 0) (rm_rec l Z a0 hw [] a1 h0 n0 O0) hZ (hw _ (List.mem_of_getElem? (i := 22) rfl)) (hw _ (List.mem_of_getElem? (i := 21) rfl)) (by decide) (by decide)) (g := (mkF m 1 #[.val (.ref a1), .val (.ref a2), .val (.long q1), .second, .val (.ref a3)] [(.ref a1)])) rfl (by rw [hml]; rfl) (Steps.refl _) (a := a1) (argsL := []) (rest := []) (lenOf pd_1 rfl) rfl (by show 2 * 0 + _ ≤ _; exact Nat.le_of_eq rfl) (hb hby d1_1) (fun _ _ => ⟨rfl, e0, (by decide : 0 + 0 ≤ _), (by decide : 0 + 0 ≤ _)⟩)
  dsimp only [Pt.U, Pt.locs, Pt.cells, Pt.slots] at X1 l1 y1 z1 st1 hQ1
  subst l1 y1 z1
  obtain ⟨rfl, N1q, e1⟩ := hQ1
  have N1 := Fr.app N0 N1q
  refine own_trW st1 ?_
  show own_EndsW _ _ _ _ _ _ _ T1 (mkF m 4 #[.val (.ref a1), .val (.ref a2), .val (.long q1), .second, .val (.ref a3)] [])
  refine own_stW (fun _ kq => XS.aloadN X1.here hx rfl (hb hby d1_4) rfl rfl kq) ?_
  show own_EndsW _ _ _ _ _ _ _ T1 (mkF m 5 #[.val (.ref a1), .val (.ref a2), .val (.long q1), .second, .val (.ref a3)] [(.ref a2)])
  obtain ⟨sl2, T2, h2, kk2, X2, e2, E2, hS, hk', hZ, hown, st2⟩ := ldcS X1 hx hZ hown (hw _ (List.mem_of_getElem? (i := 26) rfl)) (own_wS hw) e1 hS hk (g := (mkF m 5 #[.val (.ref a1), .val (.ref a2), .val (.long q1), .second, .val (.ref a3)] [(.ref a2)])) rfl (hb hby d1_5) (n := 16) (by decide +kernel) (by decide) (by decide) (by decide)
  have O2 := O0.ext E2
  have hk := Nat.le_trans hk E2.1
  have hk := hk'
  refine own_stW st2 ?_
  show own_EndsW _ _ _ _ _ _ _ T2 (mkF m 7 #[.val (.ref a1), .val (.ref a2), .val (.long q1), .second, .val (.ref a3)] [(.ref sl2), (.ref a2)])
  obtain ⟨_, _, ⟨T3, L3, k3, n3⟩, -, X3, ⟨Lc3, hQ3, l3, y3, z3⟩, st3⟩ := Jvm.LawKit.callS X2 hx (y := (⟨"java/util/Objects", "requireNonNull", "(Ljava/lang/Object;Ljava/lang/String;)Ljava/lang/Object;"⟩ : MethodName)) hown (mvT hZ (hw _ (List.mem_of_getElem? (i := 27) rfl))) (mvT hZ (hw _ (List.mem_of_getElem? (i := 28) rfl))) (mvT hZ (hw _ (List.mem_of_getElem? (i := 29) rfl))) (mvT hZ (hw _ (List.mem_of_getElem? (i := 30) rfl))) (by decide) (backOf (W := 0) (rm_req l Z a0 hw [] a2 sl2 h2 n0 O2) hZ (hw _ (List.mem_of_getElem? (i := 30) rfl)) (hw _ (List.mem_of_getElem? (i := 29) rfl)) (by decide) (by decide)) (g := (mkF m 7 #[.val (.ref a1), .val (.ref a2), .val (.long q1), .second, .val (.ref a3)] [(.ref sl2), (.ref a2)])) rfl (by rw [hml]; rfl) (argsL := [(.ref a2), (.ref sl2)]) (rest := []) (lenOf pd_2 rfl) rfl (by show 2 * 0 + _ ≤ _; exact Nat.le_of_eq rfl) (hb hby d1_7) (fun _ _ => ⟨rfl, e2, (by decide : 2 + 0 ≤ _), (by decide : 20 + 0 ≤ _)⟩)
  dsimp only [Pt.U, Pt.locs, Pt.cells, Pt.slots] at X3 l3 y3 z3 st3 hQ3
  subst l3 y3 z3
  obtain ⟨rfl, N3q, e3⟩ := hQ3
  have N3 := Fr.app N1 N3q
  refine own_stW st3 ?_
  show own_EndsW _ _ _ _ _ _ _ T3 (mkF m 10 #[.val (.ref a1), .val (.ref a2), .val (.long q1), .second, .val (.ref a3)] [(.ref a2)])
  refine own_stW (fun _ kq => XS.pop X3.here hx rfl (hb hby d1_10) rfl rfl kq) ?_
  show own_EndsW _ _ _ _ _ _ _ T3 (mkF m 11 #[.val (.ref a1), .val (.ref a2), .val (.long q1), .second, .val (.ref a3)] [])
  refine own_stW (fun _ kq => XS.aload X3.here hx rfl (hb hby d1_11) rfl rfl kq) ?_
  show own_EndsW _ _ _ _ _ _ _ T3 (mkF m 13 #[.val (.ref a1), .val (.ref a2), .val (.long q1), .second, .val (.ref a3)] [(.ref a3)])
  obtain ⟨sl4, T4, h4, kk4, X4, e4, E4, hS, hk', hZ, hown, st4⟩ := ldcS X3 hx hZ hown (hw _ (List.mem_of_getElem? (i := 31) rfl)) (own_wS hw) e3 hS hk (g := (mkF m 13 #[.val (.ref a1), .val (.ref a2), .val (.long q1), .second, .val (.ref a3)] [(.ref a3)])) rfl (hb hby d1_13) (n := 24) (by decide +kernel) (by decide) (by decide) (by decide)
  have O4 := O2.ext E4
  have hk := Nat.le_trans hk E4.1
  have hk := hk'
  refine own_stW st4 ?_
  show own_EndsW _ _ _ _ _ _ _ T4 (mkF m 15 #[.val (.ref a1), .val (.ref a2), .val (.long q1), .second, .val (.ref a3)] [(.ref sl4), (.ref a3)])
  obtain ⟨_, _, ⟨T5, L5, k5, n5⟩, -, X5, ⟨Lc5, hQ5, l5, y5, z5⟩, st5⟩ := Jvm.LawKit.callS X4 hx (y := (⟨"java/util/Objects", "requireNonNull", "(Ljava/lang/Object;Ljava/lang/String;)Ljava/lang/Object;"⟩ : MethodName)) hown (mvT hZ (hw _ (List.mem_of_getElem? (i := 27) rfl))) (mvT hZ (hw _ (List.mem_of_getElem? (i := 28) rfl))) (mvT hZ (hw _ (List.mem_of_getElem? (i := 29) rfl))) (mvT hZ (hw _ (List.mem_of_getElem? (i := 30) rfl))) (by decide) (backOf (W := 0) (rm_req l Z a0 hw [] a3 sl4 h4 n0 O4) hZ (hw _ (List.mem_of_getElem? (i := 30) rfl)) (hw _ (List.mem_of_getElem? (i := 29) rfl)) (by decide) (by decide)) (g := (mkF m 15 #[.val (.ref a1), .val (.ref a2), .val (.long q1), .second, .val (.ref a3)] [(.ref sl4), (.ref a3)])) rfl (by rw [hml]; rfl) (argsL := [(.ref a3), (.ref sl4)]) (rest := []) (lenOf pd_2 rfl) rfl (by show 2 * 0 + _ ≤ _; exact Nat.le_of_eq rfl) (hb hby d1_15) (fun _ _ => ⟨rfl, e4, (by decide : 4 + 0 ≤ _), (by decide : 48 + 0 ≤ _)⟩)
  dsimp only [Pt.U, Pt.locs, Pt.cells, Pt.slots] at X5 l5 y5 z5 st5 hQ5
  subst l5 y5 z5
  obtain ⟨rfl, N5q, e5⟩ := hQ5
  have N5 := Fr.app N3 N5q
  refine own_stW st5 ?_
  show own_EndsW _ _ _ _ _ _ _ T5 (mkF m 18 #[.val (.ref a1), .val (.ref a2), .val (.long q1), .second, .val (.ref a3)] [(.ref a3)])
  refine own_stW (fun _ kq => XS.pop X5.here hx rfl (hb hby d1_18) rfl rfl kq) ?_
  show own_EndsW _ _ _ _ _ _ _ T5 (mkF m 19 #[.val (.ref a1), .val (.ref a2), .val (.long q1), .second, .val (.ref a3)] [])
  refine own_stW (fun _ kq => XS.lloadN X5.here hx rfl (hb hby d1_19) rfl kq) ?_
  show own_EndsW _ _ _ _ _ _ _ T5 (mkF m 20 #[.val (.ref a1), .val (.ref a2), .val (.long q1), .second, .val (.ref a3)] [(.long q1)])
  refine own_stW (fun _ kq => XS.lconst X5.here hx rfl (hb hby d1_20) kq) ?_
  show own_EndsW _ _ _ _ _ _ _ T5 (mkF m 21 #[.val (.ref a1), .val (.ref a2), .val (.long q1), .second, .val (.ref a3)] [(.long (0 : Int64)), (.long q1)])
  refine own_stW (fun _ kq => XS.lcmp X5.here hx rfl (hb hby d1_21) rfl kq) ?_
  show own_EndsW _ _ _ _ _ _ _ T5 (mkF m 22 #[.val (.ref a1), .val (.ref a2), .val (.long q1), .second, .val (.ref a3)] [(.int (lcmpW q1 (0 : Int64)))])
  refine own_stW (fun _ kq => XS.ifYes X5.here hx rfl (pc0 := 22) (pc' := 39) rfl (hb hby d1_22) rfl ((if0 _ _).trans (flt hq').2.1) (by decide) (by decide) kq) ?_
  show own_EndsW _ _ _ _ _ _ _ T5 (mkF m 39 #[.val (.ref a1), .val (.ref a2), .val (.long q1), .second, .val (.ref a3)] [])
  refine own_stW (fun _ kq => XS.aloadN X5.here hx rfl (hb hby d1_39) rfl rfl kq) ?_
  show own_EndsW _ _ _ _ _ _ _ T5 (mkF m 40 #[.val (.ref a1), .val (.ref a2), .val (.long q1), .second, .val (.ref a3)] [(.ref a1)])
  refine own_stW (fun _ kq => XS.aloadN X5.here hx rfl (hb hby d1_40) rfl rfl kq) ?_
  show own_EndsW _ _ _ _ _ _ _ T5 (mkF m 41 #[.val (.ref a1), .val (.ref a2), .val (.long q1), .second, .val (.ref a3)] [(.ref a2), (.ref a1)])
  obtain ⟨T6, h6, X6, e6, W6, st6⟩ := putF X5 hx hZ hown (host := "") (Or.inl (hw _ (List.mem_of_getElem? (i := 32) rfl))) Via.refl e5 ((F_name.ext E2).ext E4) ((E1.ext E2).ext E4) (Or.inr ⟨(hw _ (List.mem_of_getElem? (i := 33) rfl)), rfl, hnm⟩) (hw _ (List.mem_of_getElem? (i := 5) rfl)) (ty := (.object "java/lang/String")) (by decide) rfl rfl (g := (mkF m 41 #[.val (.ref a1), .val (.ref a2), .val (.long q1), .second, .val (.ref a3)] [(.ref a2), (.ref a1)])) rfl rfl (hb hby d1_41)
  have Fw6 := ((F_name.ext E2).ext E4).same W6
  have N6 := Fr.snoc X6 N5 g_a1
  have O6 := O4.wr W6 g_a1
  have hk := Nat.le_trans hk (Nat.le_of_eq W6.size.symm)
  refine own_stW st6 ?_
  show own_EndsW _ _ _ _ _ _ _ T6 (mkF m 44 #[.val (.ref a1), .val (.ref a2), .val (.long q1), .second, .val (.ref a3)] [])
  refine own_stW (fun _ kq => XS.aloadN X6.here hx rfl (hb hby d1_44) rfl rfl kq) ?_
  show own_EndsW _ _ _ _ _ _ _ T6 (mkF m 45 #[.val (.ref a1), .val (.ref a2), .val (.long q1), .second, .val (.ref a3)] [(.ref a1)])
  refine own_stW (fun _ kq => XS.lloadN X6.here hx rfl (hb hby d1_45) rfl kq) ?_
  show own_EndsW _ _ _ _ _ _ _ T6 (mkF m 46 #[.val (.ref a1), .val (.ref a2), .val (.long q1), .second, .val (.ref a3)] [(.long q1), (.ref a1)])
  obtain ⟨T7, h7, X7, e7, W7, st7⟩ := putF X6 hx hZ hown (host := "") (Or.inl (hw _ (List.mem_of_getElem? (i := 34) rfl))) Via.refl e6 (((F_capacity.ext E2).ext E4).other W6 (Or.inr (slot_ne (Or.inr (hw _ (List.mem_of_getElem? (i := 35) rfl))) (Or.inr (hw _ (List.mem_of_getElem? (i := 33) rfl))) (by decide) (t := .long) (t' := (.object "java/lang/String")) (by decide) (by decide)))) (((E1.ext E2).ext E4).wr W6) (Or.inr ⟨(hw _ (List.mem_of_getElem? (i := 35) rfl)), rfl, hnm⟩) (hw _ (List.mem_of_getElem? (i := 5) rfl)) (ty := .long) (by decide) rfl rfl (g := (mkF m 46 #[.val (.ref a1), .val (.ref a2), .val (.long q1), .second, .val (.ref a3)] [(.long q1), (.ref a1)])) rfl rfl (hb hby d1_46)
  have Fw7 := (((F_capacity.ext E2).ext E4).other W6 (Or.inr (slot_ne (Or.inr (hw _ (List.mem_of_getElem? (i := 35) rfl))) (Or.inr (hw _ (List.mem_of_getElem? (i := 33) rfl))) (by decide) (t := .long) (t' := (.object "java/lang/String")) (by decide) (by decide)))).same W7
  have N7 := Fr.snoc X7 N6 g_a1
  have O7 := O6.wr W7 g_a1
  have hk := Nat.le_trans hk (Nat.le_of_eq W7.size.symm)
  refine own_stW st7 ?_
  show own_EndsW _ _ _ _ _ _ _ T7 (mkF m 49 #[.val (.ref a1), .val (.ref a2), .val (.long q1), .second, .val (.ref a3)] [])
  refine own_stW (fun _ kq => XS.aloadN X7.here hx rfl (hb hby d1_49) rfl rfl kq) ?_
  show own_EndsW _ _ _ _ _ _ _ T7 (mkF m 50 #[.val (.ref a1), .val (.ref a2), .val (.long q1), .second, .val (.ref a3)] [(.ref a1)])
  refine own_stW (fun _ kq => XS.aload X7.here hx rfl (hb hby d1_50) rfl rfl kq) ?_
  show own_EndsW _ _ _ _ _ _ _ T7 (mkF m 52 #[.val (.ref a1), .val (.ref a2), .val (.long q1), .second, .val (.ref a3)] [(.ref a3), (.ref a1)])
  obtain ⟨T8, h8, X8, e8, W8, st8⟩ := putF X7 hx hZ hown (host := "") (Or.inl (hw _ (List.mem_of_getElem? (i := 36) rfl))) Via.refl e7 ((((F_policy.ext E2).ext E4).other W6 (Or.inr (slot_ne (Or.inr (hw _ (List.mem_of_getElem? (i := 37) rfl))) (Or.inr (hw _ (List.mem_of_getElem? (i := 33) rfl))) (by decide) (t := (.object "com/example/seatledger/seatledger/model/Policy")) (t' := (.object "java/lang/String")) (by decide) (by decide)))).other W7 (Or.inr (slot_ne (Or.inr (hw _ (List.mem_of_getElem? (i := 37) rfl))) (Or.inr (hw _ (List.mem_of_getElem? (i := 35) rfl))) (by decide) (t := (.object "com/example/seatledger/seatledger/model/Policy")) (t' := .long) (by decide) (by decide)))) ((((E1.ext E2).ext E4).wr W6).wr W7) (Or.inr ⟨(hw _ (List.mem_of_getElem? (i := 37) rfl)), rfl, hnm⟩) (hw _ (List.mem_of_getElem? (i := 5) rfl)) (ty := (.object "com/example/seatledger/seatledger/model/Policy")) (by decide) rfl rfl (g := (mkF m 52 #[.val (.ref a1), .val (.ref a2), .val (.long q1), .second, .val (.ref a3)] [(.ref a3), (.ref a1)])) rfl rfl (hb hby d1_52)
  have Fw8 := ((((F_policy.ext E2).ext E4).other W6 (Or.inr (slot_ne (Or.inr (hw _ (List.mem_of_getElem? (i := 37) rfl))) (Or.inr (hw _ (List.mem_of_getElem? (i := 33) rfl))) (by decide) (t := (.object "com/example/seatledger/seatledger/model/Policy")) (t' := (.object "java/lang/String")) (by decide) (by decide)))).other W7 (Or.inr (slot_ne (Or.inr (hw _ (List.mem_of_getElem? (i := 37) rfl))) (Or.inr (hw _ (List.mem_of_getElem? (i := 35) rfl))) (by decide) (t := (.object "com/example/seatledger/seatledger/model/Policy")) (t' := .long) (by decide) (by decide)))).same W8
  have N8 := Fr.snoc X8 N7 g_a1
  have O8 := O7.wr W8 g_a1
  have hk := Nat.le_trans hk (Nat.le_of_eq W8.size.symm)
  refine own_stW st8 ?_
  show own_EndsW _ _ _ _ _ _ _ T8 (mkF m 55 #[.val (.ref a1), .val (.ref a2), .val (.long q1), .second, .val (.ref a3)] [])
  refine own_retVW X8 hS (by rw [e8]; exact hk) hx Bd.returns (hb hby d1_55) hlk (by decide) (by decide) ?_
  show Q_rm_init Z a1 a2 q1 a3 h0 n0 _ T8.heap _
  rw [e8]
  exact ⟨rfl, N8, (((((kk.ext E2).ext E4).wr W6 (Or.inl (List.mem_of_getElem? (i := 0) rfl))).wr W7 (Or.inl (List.mem_of_getElem? (i := 0) rfl))).wr W8 (Or.inl (List.mem_of_getElem? (i := 0) rfl))), O8, (((((E1.ext E2).ext E4).wr W6).wr W7).wr W8), (Fw7.other W8 (Or.inr (slot_ne (Or.inr (hw _ (List.mem_of_getElem? (i := 35) rfl))) (Or.inr (hw _ (List.mem_of_getElem? (i := 37) rfl))) (by decide) (t := .long) (t' := (.object "com/example/seatledger/seatledger/model/Policy")) (by decide) (by decide)))), Fw8⟩
theorem d5_0 : decode prog_17_method_2_code 0 = .ok (.aload_n 0, 1) := by decide +kernel
theorem d5_1 : decode prog_17_method_2_code 1 = .ok (.getfield 35, 3) := by decide +kernel
theorem d5_4 : decode prog_17_method_2_code 4 = .ok (.invokevirtual 38, 3) := by decide +kernel
theorem d5_7 : decode prog_17_method_2_code 7 = .ok (.ifCond .ne 12, 3) := by decide +kernel
theorem d5_10 : decode prog_17_method_2_code 10 = .ok (.lload_n 1, 1) := by decide +kernel
theorem d5_11 : decode prog_17_method_2_code 11 = .ok (.aload_n 0, 1) := by decide +kernel
theorem d5_12 : decode prog_17_method_2_code 12 = .ok (.getfield 31, 3) := by decide +kernel
theorem d5_15 : decode prog_17_method_2_code 15 = .ok (.lcmp, 1) := by decide +kernel
theorem d5_16 : decode prog_17_method_2_code 16 = .ok (.ifCond .ge 7, 3) := by decide +kernel
theorem d5_19 : decode prog_17_method_2_code 19 = .ok (.iconst 1, 1) := by decide +kernel
theorem d5_20 : decode prog_17_method_2_code 20 = .ok (.goto 4, 3) := by decide +kernel
theorem d5_23 : decode prog_17_method_2_code 23 = .ok (.iconst 0, 1) := by decide +kernel
theorem d5_24 : decode prog_17_method_2_code 24 = .ok (.ireturn, 1) := by decide +kernel
theorem ef_rm_admH (m : MethodId) (x0 : Addr) (x1 : Int64) : entryFrame m #[(.ref x0), (.long x1)] 3 = mkF m 0 #[.val (.ref x0), .val (.long x1), .second] [] := by first | (simp [entryFrame, mkF, argsToLocals, Value.category]; done) | rfl
def Q_rm_admH (Z : State) (a1 : Addr) (q1 : Int64) (q2 : Int64) (rH : Addr) (rS : Addr) (h0 : Heap) (n0 : Nat) (v : Option Value) (h : Heap) (L : List Loc) : Prop := v = some (.int (if q1 < q2 then 1 else 0)) ∧ Fr n0 L ∧ h = h0
set_option maxRecDepth 65536 in
set_option maxHeartbeats 40000000 in
theorem rm_admH (l : Launch) (Z : State) (a0 : Array Value) (hw : ∀ d ∈ tables_1, d.before a0 Z = true) (ws : List Jvm.Cond) (a1 : Addr) (q1 : Int64) (q2 : Int64) (rH : Addr) (rS : Addr) (h0 : Heap) (n0 : Nat) (O0 : Old Z n0 h0) (Fc : Fld Z h0 a1 "com/example/seatledger/seatledger/model/Volume" "capacity" "J" (.long q2)) (Fp : Fld Z h0 a1 "com/example/seatledger/seatledger/model/Volume" "policy" "Lcom/example/seatledger/seatledger/model/Policy;" (.ref rH)) (G : own_W Z rH rS) :
    MetFree l (⟨"com/example/seatledger/seatledger/model/Volume", "admitsAnother", "(J)Z"⟩ : MethodName) (head1 (Jvm.Cond.code (⟨"com/example/seatledger/seatledger/model/Volume", "admitsAnother", "(J)Z"⟩ : MethodName) prog_17_method_2_code 3 (some .boolean) :: ws) ({ frames := 1, cells := 0, slots := 0, locals := 12 } : Room)) (fun a U => a = #[(.ref a1), (.long q1)] ∧ Z.Warmed39 U.vm ∧ U.heap = h0) (fun _ _ _ _ _ => True) (fun _ U o U' => ∃ v L, o = .returned v ∧ Q_rm_admH Z a1 q1 q2 rH rS h0 n0 v U'.heap L ∧ FrameEnd U o U' L ({ frames := 1, cells := 0, slots := 0, locals := 12 } : Room).cells ({ frames := 1, cells := 0, slots := 0, locals := 12 } : Room).slots) := by
  refine MetFree.of_bodySF (plainFor_of_name pn_3) hisR ?_
  intro p e s m args below meth c s₁ Bd hml0 hP hK
  obtain ⟨rfl, hZ, hh⟩ := hP
  have hx := Bd.exec
  have hby := Bd.bytes
  have hml : c.maxLocals = 3 := hml0
  have hown : s.vm.findClass "com/example/seatledger/seatledger/model/Volume" = some m.cls := findClass_of_methodNamed Bd.named
  have hnm := (name_of_methodNamed Bd.named Bd.method).1
  have hlk := BodyLoose.notSynchronized Bd
  have X0 : Stand p l e ({ frames := 1, cells := 0, slots := 0, locals := 12 } : Room) s m #[(.ref a1), (.long q1)] below meth c s₁ [] 0 0 := Stand.of_body Bd
  have e0 : s₁.heap = h0 := by rw [← hh, Bd.state]; rfl
  have N0 := Fr.nil n0
  show own_Ends p e below s (Q_rm_admH Z a1 q1 q2 rH rS h0 n0) ({ frames := 1, cells := 0, slots := 0, locals := 12 } : Room).cells ({ frames := 1, cells := 0, slots := 0, locals := 12 } : Room).slots s₁ (entryFrame m #[(.ref a1), (.long q1)] 3)
  rw [ef_rm_admH m a1 q1]
  have G' := G
  obtain ⟨S_H, E_H, S_S, E_S, F_H_exceedable, F_H_ordinal, F_S_ordinal, F_S_exceedable⟩ := G'
  show own_Ends _ _ _ _ _ _ _ s₁ (mkF m 0 #[.val (.ref a1), .val (.long q1), .second] [])
  refine own_st (fun _ kq => XS.aloadN X0.here hx rfl (hb hby d5_0) rfl rfl kq) ?_
  show own_Ends _ _ _ _ _ _ _ s₁ (mkF m 1 #[.val (.ref a1), .val (.long q1), .second] [(.ref a1)])
  obtain ⟨T1, X1, e1, st1⟩ := getF X0 hx hZ hown (host := "") (Or.inl (hw _ (List.mem_of_getElem? (i := 36) rfl))) Via.refl e0 Fp (g := (mkF m 1 #[.val (.ref a1), .val (.long q1), .second] [(.ref a1)])) rfl rfl (hb hby d5_1)
  refine own_st st1 ?_
  show own_Ends _ _ _ _ _ _ _ T1 (mkF m 4 #[.val (.ref a1), .val (.long q1), .second] [(.ref rH)])
  obtain ⟨cq2, kq2, q2a, q2b, q2c⟩ := isOf hZ e1 (E_H.ext O0.2)
  obtain ⟨_, _, ⟨T2, L2, k2, n2⟩, -, X2, ⟨Lc2, hQ2, l2, y2, z2⟩, st2⟩ := X1.virtualBack hx (y := (⟨"com/example/seatledger/seatledger/model/Policy", "exceedable", "()Z"⟩ : MethodName)) (z := (⟨"com/example/seatledger/seatledger/model/Policy", "exceedable", "()Z"⟩ : MethodName)) hown (mvT hZ (hw _ (List.mem_of_getElem? (i := 43) rfl))) (mvT hZ (hw _ (List.mem_of_getElem? (i := 44) rfl))) (notFace_of_selects (args := #[]) (mvT hZ (hw _ (List.mem_of_getElem? (i := 46) rfl)))) (mvT hZ (hw _ (List.mem_of_getElem? (i := 46) rfl))) (mvT hZ (hw _ (List.mem_of_getElem? (i := 45) rfl))) (by decide) (backOf (W := 0) (rm_excH l Z a0 hw [] rH rS h0 n0 O0 G) hZ (hw _ (List.mem_of_getElem? (i := 47) rfl)) (hw _ (List.mem_of_getElem? (i := 2) rfl)) (by decide) (by decide)) q2a q2c (g := (mkF m 4 #[.val (.ref a1), .val (.long q1), .second] [(.ref rH)])) rfl (by rw [hml]; rfl) (Steps.refl _) (argsL := []) (rest := []) (lenOf pd_4 rfl) rfl (by show 2 * 0 + _ ≤ _; exact Nat.le_of_eq rfl) (hb hby d5_4) (fun _ _ => ⟨rfl, e1, (by decide : 0 + 0 ≤ _), (by decide : 0 + 0 ≤ _)⟩)
  dsimp only [Pt.U, Pt.locs, Pt.cells, Pt.slots] at X2 l2 y2 z2 st2 hQ2
  subst l2 y2 z2
  obtain ⟨rfl, N2q, e2⟩ := hQ2
  have N2 := Fr.app N0 N2q
  refine own_tr st2 ?_
  show own_Ends _ _ _ _ _ _ _ T2 (mkF m 7 #[.val (.ref a1), .val (.long q1), .second] [(.int (0 : Int32))])
  refine own_st (fun _ kq => XS.ifNo X2.here hx rfl (hb hby d5_7) rfl ((if0 _ _).trans (teq (by decide : (0 : Int32) = (0 : Int32))).2) kq) ?_
  show own_Ends _ _ _ _ _ _ _ T2 (mkF m 10 #[.val (.ref a1), .val (.long q1), .second] [])
  refine own_st (fun _ kq => XS.lloadN X2.here hx rfl (hb hby d5_10) rfl kq) ?_
  show own_Ends _ _ _ _ _ _ _ T2 (mkF m 11 #[.val (.ref a1), .val (.long q1), .second] [(.long q1)])
  refine own_st (fun _ kq => XS.aloadN X2.here hx rfl (hb hby d5_11) rfl rfl kq) ?_
  show own_Ends _ _ _ _ _ _ _ T2 (mkF m 12 #[.val (.ref a1), .val (.long q1), .second] [(.ref a1), (.long q1)])
  obtain ⟨T3, X3, e3, st3⟩ := getF X2 hx hZ hown (host := "") (Or.inl (hw _ (List.mem_of_getElem? (i := 34) rfl))) Via.refl e2 Fc (g := (mkF m 12 #[.val (.ref a1), .val (.long q1), .second] [(.ref a1), (.long q1)])) rfl rfl (hb hby d5_12)
  refine own_st st3 ?_
  show own_Ends _ _ _ _ _ _ _ T3 (mkF m 15 #[.val (.ref a1), .val (.long q1), .second] [(.long q2), (.long q1)])
  refine own_st (fun _ kq => XS.lcmp X3.here hx rfl (hb hby d5_15) rfl kq) ?_
  show own_Ends _ _ _ _ _ _ _ T3 (mkF m 16 #[.val (.ref a1), .val (.long q1), .second] [(.int (lcmpW q1 q2))])
  by_cases hc16 : (lcmpW q1 q2) < (0 : Int32)
  · skip
    refine own_st (fun _ kq => XS.ifNo X3.here hx rfl (hb hby d5_16) rfl ((if0 _ _).trans (tlt hc16).2.1) kq) ?_
    show own_Ends _ _ _ _ _ _ _ T3 (mkF m 19 #[.val (.ref a1), .val (.long q1), .second] [])
    refine own_st (fun _ kq => XS.iconst X3.here hx rfl (hb hby d5_19) kq) ?_
    show own_Ends _ _ _ _ _ _ _ T3 (mkF m 20 #[.val (.ref a1), .val (.long q1), .second] [(.int (1 : Int32))])
    refine own_st (fun _ kq => XS.goto X3.here hx rfl (pc0 := 20) (pc' := 24) rfl (hb hby d5_20) (by decide) (by decide) kq) ?_
    show own_Ends _ _ _ _ _ _ _ T3 (mkF m 24 #[.val (.ref a1), .val (.long q1), .second] [(.int (1 : Int32))])
    refine own_retN X3 hx (t := .boolean) Bd.returns (by simp) (hb hby d5_24) hlk (by decide) (by decide) (w := (1 : Int32)) (by decide) ?_
    show Q_rm_admH Z a1 q1 q2 rH rS h0 n0 _ T3.heap _
    rw [e3]
    exact ⟨by rw [if_pos ((lw_lt _ _).mp hc16)], N2, rfl⟩
  · skip
    refine own_st (fun _ kq => XS.ifYes X3.here hx rfl (pc0 := 16) (pc' := 23) rfl (hb hby d5_16) rfl ((if0 _ _).trans (flt hc16).2.1) (by decide) (by decide) kq) ?_
    show own_Ends _ _ _ _ _ _ _ T3 (mkF m 23 #[.val (.ref a1), .val (.long q1), .second] [])
    refine own_st (fun _ kq => XS.iconst X3.here hx rfl (hb hby d5_23) kq) ?_
    show own_Ends _ _ _ _ _ _ _ T3 (mkF m 24 #[.val (.ref a1), .val (.long q1), .second] [(.int (0 : Int32))])
    refine own_retN X3 hx (t := .boolean) Bd.returns (by simp) (hb hby d5_24) hlk (by decide) (by decide) (w := (0 : Int32)) (by decide) ?_
    show Q_rm_admH Z a1 q1 q2 rH rS h0 n0 _ T3.heap _
    rw [e3]
    exact ⟨by rw [if_neg (fun q => hc16 ((lw_lt _ _).mpr q))], N2, rfl⟩
theorem ef_rm_admS (m : MethodId) (x0 : Addr) (x1 : Int64) : entryFrame m #[(.ref x0), (.long x1)] 3 = mkF m 0 #[.val (.ref x0), .val (.long x1), .second] [] := by first | (simp [entryFrame, mkF, argsToLocals, Value.category]; done) | rfl
def Q_rm_admS (Z : State) (a1 : Addr) (q1 : Int64) (q2 : Int64) (rH : Addr) (rS : Addr) (h0 : Heap) (n0 : Nat) (v : Option Value) (h : Heap) (L : List Loc) : Prop := v = some (.int 1) ∧ Fr n0 L ∧ h = h0
set_option maxRecDepth 65536 in
set_option maxHeartbeats 40000000 in
theorem rm_admS (l : Launch) (Z : State) (a0 : Array Value) (hw : ∀ d ∈ tables_1, d.before a0 Z = true) (ws : List Jvm.Cond) (a1 : Addr) (q1 : Int64) (q2 : Int64) (rH : Addr) (rS : Addr) (h0 : Heap) (n0 : Nat) (O0 : Old Z n0 h0) (Fc : Fld Z h0 a1 "com/example/seatledger/seatledger/model/Volume" "capacity" "J" (.long q2)) (Fp : Fld Z h0 a1 "com/example/seatledger/seatledger/model/Volume" "policy" "Lcom/example/seatledger/seatledger/model/Policy;" (.ref rS)) (G : own_W Z rH rS) :
    MetFree l (⟨"com/example/seatledger/seatledger/model/Volume", "admitsAnother", "(J)Z"⟩ : MethodName) (head1 (Jvm.Cond.code (⟨"com/example/seatledger/seatledger/model/Volume", "admitsAnother", "(J)Z"⟩ : MethodName) prog_17_method_2_code 3 (some .boolean) :: ws) ({ frames := 1, cells := 0, slots := 0, locals := 12 } : Room)) (fun a U => a = #[(.ref a1), (.long q1)] ∧ Z.Warmed39 U.vm ∧ U.heap = h0) (fun _ _ _ _ _ => True) (fun _ U o U' => ∃ v L, o = .returned v ∧ Q_rm_admS Z a1 q1 q2 rH rS h0 n0 v U'.heap L ∧ FrameEnd U o U' L ({ frames := 1, cells := 0, slots := 0, locals := 12 } : Room).cells ({ frames := 1, cells := 0, slots := 0, locals := 12 } : Room).slots) := by
  refine MetFree.of_bodySF (plainFor_of_name pn_3) hisR ?_
  intro p e s m args below meth c s₁ Bd hml0 hP hK
  obtain ⟨rfl, hZ, hh⟩ := hP
  have hx := Bd.exec
  have hby := Bd.bytes
  have hml : c.maxLocals = 3 := hml0
  have hown : s.vm.findClass "com/example/seatledger/seatledger/model/Volume" = some m.cls := findClass_of_methodNamed Bd.named
  have hnm := (name_of_methodNamed Bd.named Bd.method).1
  have hlk := BodyLoose.notSynchronized Bd
  have X0 : Stand p l e ({ frames := 1, cells := 0, slots := 0, locals := 12 } : Room) s m #[(.ref a1), (.long q1)] below meth c s₁ [] 0 0 := Stand.of_body Bd
  have e0 : s₁.heap = h0 := by rw [← hh, Bd.state]; rfl
  have N0 := Fr.nil n0
  show own_Ends p e below s (Q_rm_admS Z a1 q1 q2 rH rS h0 n0) ({ frames := 1, cells := 0, slots := 0, locals := 12 } : Room).cells ({ frames := 1, cells := 0, slots := 0, locals := 12 } : Room).slots s₁ (entryFrame m #[(.ref a1), (.long q1)] 3)
  rw [ef_rm_admS m a1 q1]
  have G' := G
  obtain ⟨S_H, E_H, S_S, E_S, F_H_exceedable, F_H_ordinal, F_S_ordinal, F_S_exceedable⟩ := G'
  show own_Ends _ _ _ _ _ _ _ s₁ (mkF m 0 #[.val (.ref a1), .val (.long q1), .second] [])
  refine own_st (fun _ kq => XS.aloadN X0.here hx rfl (hb hby d5_0) rfl rfl kq) ?_
  show own_Ends _ _ _ _ _ _ _ s₁ (mkF m 1 #[.val (.ref a1), .val (.long q1), .second] [(.ref a1)])
  obtain ⟨T1, X1, e1, st1⟩ := getF X0 hx hZ hown (host := "") (Or.inl (hw _ (List.mem_of_getElem? (i := 36) rfl))) Via.refl e0 Fp (g := (mkF m 1 #[.val (.ref a1), .val (.long q1), .second] [(.ref a1)])) rfl rfl (hb hby d5_1)
  refine own_st st1 ?_
  show own_Ends _ _ _ _ _ _ _ T1 (mkF m 4 #[.val (.ref a1), .val (.long q1), .second] [(.ref rS)])
  obtain ⟨cq2, kq2, q2a, q2b, q2c⟩ := isOf hZ e1 (E_S.ext O0.2)
  obtain ⟨_, _, ⟨T2, L2, k2, n2⟩, -, X2, ⟨Lc2, hQ2, l2, y2, z2⟩, st2⟩ := X1.virtualBack hx (y := (⟨"com/example/seatledger/seatledger/model/Policy", "exceedable", "()Z"⟩ : MethodName)) (z := (⟨"com/example/seatledger/seatledger/model/Policy", "exceedable", "()Z"⟩ : MethodName)) hown (mvT hZ (hw _ (List.mem_of_getElem? (i := 43) rfl))) (mvT hZ (hw _ (List.mem_of_getElem? (i := 44) rfl))) (notFace_of_selects (args := #[]) (mvT hZ (hw _ (List.mem_of_getElem? (i := 46) rfl)))) (mvT hZ (hw _ (List.mem_of_getElem? (i := 46) rfl))) (mvT hZ (hw _ (List.mem_of_getElem? (i := 45) rfl))) (by decide) (backOf (W := 0) (rm_excS l Z a0 hw [] rH rS h0 n0 O0 G) hZ (hw _ (List.mem_of_getElem? (i := 47) rfl)) (hw _ (List.mem_of_getElem? (i := 2) rfl)) (by decide) (by decide)) q2a q2c (g := (mkF m 4 #[.val (.ref a1), .val (.long q1), .second] [(.ref rS)])) rfl (by rw [hml]; rfl) (Steps.refl _) (argsL := []) (rest := []) (lenOf pd_4 rfl) rfl (by show 2 * 0 + _ ≤ _; exact Nat.le_of_eq rfl) (hb hby d5_4) (fun _ _ => ⟨rfl, e1, (by decide : 0 + 0 ≤ _), (by decide : 0 + 0 ≤ _)⟩)
  dsimp only [Pt.U, Pt.locs, Pt.cells, Pt.slots] at X2 l2 y2 z2 st2 hQ2
  subst l2 y2 z2
  obtain ⟨rfl, N2q, e2⟩ := hQ2
  have N2 := Fr.app N0 N2q
  refine own_tr st2 ?_
  show own_Ends _ _ _ _ _ _ _ T2 (mkF m 7 #[.val (.ref a1), .val (.long q1), .second] [(.int (1 : Int32))])
  refine own_st (fun _ kq => XS.ifYes X2.here hx rfl (pc0 := 7) (pc' := 19) rfl (hb hby d5_7) rfl ((if0 _ _).trans (feq (by decide : ¬ ((1 : Int32) = (0 : Int32)))).2) (by decide) (by decide) kq) ?_
  show own_Ends _ _ _ _ _ _ _ T2 (mkF m 19 #[.val (.ref a1), .val (.long q1), .second] [])
  refine own_st (fun _ kq => XS.iconst X2.here hx rfl (hb hby d5_19) kq) ?_
  show own_Ends _ _ _ _ _ _ _ T2 (mkF m 20 #[.val (.ref a1), .val (.long q1), .second] [(.int (1 : Int32))])
  refine own_st (fun _ kq => XS.goto X2.here hx rfl (pc0 := 20) (pc' := 24) rfl (hb hby d5_20) (by decide) (by decide) kq) ?_
  show own_Ends _ _ _ _ _ _ _ T2 (mkF m 24 #[.val (.ref a1), .val (.long q1), .second] [(.int (1 : Int32))])
  refine own_retN X2 hx (t := .boolean) Bd.returns (by simp) (hb hby d5_24) hlk (by decide) (by decide) (w := (1 : Int32)) (by decide) ?_
  show Q_rm_admS Z a1 q1 q2 rH rS h0 n0 _ T2.heap _
  rw [e2]
  exact ⟨rfl, N2, rfl⟩
theorem own_cap (q : Int64) : ¬ (q &&& (9223372036854775807 : Int64)) < 0 := by
  have e := Jvm.Kit.i64_mask q 9223372036854775807 (k := 63) (by decide) (by decide)
  rw [Int64.lt_iff_toInt_lt, e, Int64.toInt_zero]
  omega
theorem pn_4 : plainName "com/example/seatledger/seatledger/model/VolumeAdmitsAnotherPinLaw" = true := by first | (simp [plainName, overriddenIn]; done) | decide +kernel
theorem ef_rm_law (m : MethodId) (x0 : Int64) (x1 : Int64) (x2 : Int32) : entryFrame m #[(.long x0), (.long x1), (.int x2)] maxLocals = mkF m 0 #[.val (.long x0), .second, .val (.long x1), .second, .val (.int x2), .unset, .unset, .unset, .unset, .unset, .unset, .unset, .unset] [] := by first | (simp [entryFrame, mkF, argsToLocals, Value.category, maxLocals]; done) | rfl
def Q_rm_law (Z : State) (q1 : Int64) (q2 : Int64) (p3 : Int32) (rH : Addr) (rS : Addr) (h0 : Heap) (n0 : Nat) (v : Option Value) (h : Heap) (L : List Loc) : Prop := v = some (.int 1) ∧ Fr n0 L
set_option maxRecDepth 65536 in
set_option maxHeartbeats 40000000 in
theorem rm_law (l : Launch) (Z : State) (a0 : Array Value) (hw : ∀ d ∈ tables_1, d.before a0 Z = true) (ws : List Jvm.Cond) (q1 : Int64) (q2 : Int64) (p3 : Int32) (rH : Addr) (rS : Addr) (h0 : Heap) (n0 : Nat) (O0 : Old Z n0 h0) (G : own_W Z rH rS) :
    MetFree l x (head1 (Jvm.Cond.code x code maxLocals ret :: ws) room_1) (fun a U => a = #[(.long q1), (.long q2), (.int p3)] ∧ Z.Warmed39 U.vm ∧ U.heap = h0) (fun _ _ _ _ _ => True) (fun _ U o U' => ∃ v L, o = .returned v ∧ Q_rm_law Z q1 q2 p3 rH rS h0 n0 v U'.heap L ∧ ReturnedEndW U o U' L room_1.cells room_1.slots) := by
  refine MetFree.of_bodySF (plainFor_of_name pn_4) hisR ?_
  intro p e s m args below meth c s₁ Bd hml0 hP hK
  obtain ⟨rfl, hZ, hh⟩ := hP
  have hx := Bd.exec
  have hby := Bd.bytes
  have hml : c.maxLocals = 13 := hml0
  have hown : s.vm.findClass "com/example/seatledger/seatledger/model/VolumeAdmitsAnotherPinLaw" = some m.cls := findClass_of_methodNamed Bd.named
  have hnm := (name_of_methodNamed Bd.named Bd.method).1
  have hlk := BodyLoose.notSynchronized Bd
  have X0 : Stand p l e room_1 s m #[(.long q1), (.long q2), (.int p3)] below meth c s₁ [] 0 0 := Stand.of_body Bd
  have e0 : s₁.heap = h0 := by rw [← hh, Bd.state]; rfl
  have N0 := Fr.nil n0
  show own_EndsW p e below s (Q_rm_law Z q1 q2 p3 rH rS h0 n0) room_1.cells room_1.slots s₁ (entryFrame m #[(.long q1), (.long q2), (.int p3)] maxLocals)
  rw [ef_rm_law m q1 q2 p3]
  have X0 : Stand p l e room_1 (s.setVm s.vm) m #[(.long q1), (.long q2), (.int p3)] below meth c s₁ [] 0 0 := X0
  have hS := (State.WarmedH.refl s).since 0
  have hk : 0 ≤ h0.size := Nat.zero_le _
  have hZ : Z.Warmed39 (s.setVm s.vm).vm := hZ
  have hown : (s.setVm s.vm).vm.findClass "com/example/seatledger/seatledger/model/VolumeAdmitsAnotherPinLaw" = some m.cls := hown
  have G' := G
  obtain ⟨S_H, E_H, S_S, E_S, F_H_exceedable, F_H_ordinal, F_S_ordinal, F_S_exceedable⟩ := G'
  show own_EndsW _ _ _ _ _ _ _ s₁ (mkF m 0 #[.val (.long q1), .second, .val (.long q2), .second, .val (.int p3), .unset, .unset, .unset, .unset, .unset, .unset, .unset, .unset] [])
  refine own_stW (fun _ kq => XS.lloadN X0.here hx rfl (hb hby at_0) rfl kq) ?_
  show own_EndsW _ _ _ _ _ _ _ s₁ (mkF m 1 #[.val (.long q1), .second, .val (.long q2), .second, .val (.int p3), .unset, .unset, .unset, .unset, .unset, .unset, .unset, .unset] [(.long q1)])
  refine own_stW (X0.ldc2Long hx hown (mvT hZ (hw _ (List.mem_of_getElem? (i := 0) rfl))) (g := (mkF m 1 #[.val (.long q1), .second, .val (.long q2), .second, .val (.int p3), .unset, .unset, .unset, .unset, .unset, .unset, .unset, .unset] [(.long q1)])) rfl (hb hby at_1)) ?_
  show own_EndsW _ _ _ _ _ _ _ s₁ (mkF m 4 #[.val (.long q1), .second, .val (.long q2), .second, .val (.int p3), .unset, .unset, .unset, .unset, .unset, .unset, .unset, .unset] [(.long (9223372036854775807 : Int64)), (.long q1)])
  refine own_stW (fun _ kq => XS.land X0.here hx rfl (hb hby at_4) rfl kq) ?_
  show own_EndsW _ _ _ _ _ _ _ s₁ (mkF m 5 #[.val (.long q1), .second, .val (.long q2), .second, .val (.int p3), .unset, .unset, .unset, .unset, .unset, .unset, .unset, .unset] [(.long (q1 &&& (9223372036854775807 : Int64)))])
  refine own_stW (fun _ kq => XS.lstore X0.here hx rfl (hb hby at_5) rfl (l' := #[.val (.long q1), .second, .val (.long q2), .second, .val (.int p3), .val (.long (q1 &&& (9223372036854775807 : Int64))), .second, .unset, .unset, .unset, .unset, .unset, .unset]) rfl kq) ?_
  show own_EndsW _ _ _ _ _ _ _ s₁ (mkF m 7 #[.val (.long q1), .second, .val (.long q2), .second, .val (.int p3), .val (.long (q1 &&& (9223372036854775807 : Int64))), .second, .unset, .unset, .unset, .unset, .unset, .unset] [])
  refine own_stW (fun _ kq => XS.iload X0.here hx rfl (hb hby at_7) rfl kq) ?_
  show own_EndsW _ _ _ _ _ _ _ s₁ (mkF m 9 #[.val (.long q1), .second, .val (.long q2), .second, .val (.int p3), .val (.long (q1 &&& (9223372036854775807 : Int64))), .second, .unset, .unset, .unset, .unset, .unset, .unset] [(.int p3)])
  refine own_stW (fun _ kq => XS.iconst X0.here hx rfl (hb hby at_9) kq) ?_
  show own_EndsW _ _ _ _ _ _ _ s₁ (mkF m 10 #[.val (.long q1), .second, .val (.long q2), .second, .val (.int p3), .val (.long (q1 &&& (9223372036854775807 : Int64))), .second, .unset, .unset, .unset, .unset, .unset, .unset] [(.int (1 : Int32)), (.int p3)])
  refine own_stW (fun _ kq => XS.iand X0.here hx rfl (hb hby at_10) rfl kq) ?_
  show own_EndsW _ _ _ _ _ _ _ s₁ (mkF m 11 #[.val (.long q1), .second, .val (.long q2), .second, .val (.int p3), .val (.long (q1 &&& (9223372036854775807 : Int64))), .second, .unset, .unset, .unset, .unset, .unset, .unset] [(.int (p3 &&& (1 : Int32)))])
  by_cases hc11 : (p3 &&& (1 : Int32)) = (0 : Int32)
  · skip
    refine own_stW (fun _ kq => XS.ifYes X0.here hx rfl (pc0 := 11) (pc' := 20) rfl (hb hby at_11) rfl ((if0 _ _).trans (teq hc11).1) (by decide) (by decide) kq) ?_
    show own_EndsW _ _ _ _ _ _ _ s₁ (mkF m 20 #[.val (.long q1), .second, .val (.long q2), .second, .val (.int p3), .val (.long (q1 &&& (9223372036854775807 : Int64))), .second, .unset, .unset, .unset, .unset, .unset, .unset] [])
    obtain ⟨T1, X1, e1, st1⟩ := getS2 X0 hx hZ hown (host := "") (Or.inl (hw _ (List.mem_of_getElem? (i := 1) rfl))) Via.refl e0 (S_H.ext O0.2) (g := (mkF m 20 #[.val (.long q1), .second, .val (.long q2), .second, .val (.int p3), .val (.long (q1 &&& (9223372036854775807 : Int64))), .second, .unset, .unset, .unset, .unset, .unset, .unset] [])) rfl (hb hby at_20)
    refine own_stW st1 ?_
    show own_EndsW _ _ _ _ _ _ _ T1 (mkF m 23 #[.val (.long q1), .second, .val (.long q2), .second, .val (.int p3), .val (.long (q1 &&& (9223372036854775807 : Int64))), .second, .unset, .unset, .unset, .unset, .unset, .unset] [(.ref rH)])
    refine own_stW (fun _ kq => XS.astore X1.here hx rfl (hb hby at_23) rfl rfl (l' := #[.val (.long q1), .second, .val (.long q2), .second, .val (.int p3), .val (.long (q1 &&& (9223372036854775807 : Int64))), .second, .val (.ref rH), .unset, .unset, .unset, .unset, .unset]) rfl kq) ?_
    show own_EndsW _ _ _ _ _ _ _ T1 (mkF m 25 #[.val (.long q1), .second, .val (.long q2), .second, .val (.int p3), .val (.long (q1 &&& (9223372036854775807 : Int64))), .second, .val (.ref rH), .unset, .unset, .unset, .unset, .unset] [])
    refine own_stW (fun _ kq => XS.lloadN X1.here hx rfl (hb hby at_25) rfl kq) ?_
    show own_EndsW _ _ _ _ _ _ _ T1 (mkF m 26 #[.val (.long q1), .second, .val (.long q2), .second, .val (.int p3), .val (.long (q1 &&& (9223372036854775807 : Int64))), .second, .val (.ref rH), .unset, .unset, .unset, .unset, .unset] [(.long q2)])
    refine own_stW (fun _ kq => XS.lstore X1.here hx rfl (hb hby at_26) rfl (l' := #[.val (.long q1), .second, .val (.long q2), .second, .val (.int p3), .val (.long (q1 &&& (9223372036854775807 : Int64))), .second, .val (.ref rH), .val (.long q2), .second, .unset, .unset, .unset]) rfl kq) ?_
    show own_EndsW _ _ _ _ _ _ _ T1 (mkF m 28 #[.val (.long q1), .second, .val (.long q2), .second, .val (.int p3), .val (.long (q1 &&& (9223372036854775807 : Int64))), .second, .val (.ref rH), .val (.long q2), .second, .unset, .unset, .unset] [])
    refine own_stW (fun _ kq => XS.iload X1.here hx rfl (hb hby at_28) rfl kq) ?_
    show own_EndsW _ _ _ _ _ _ _ T1 (mkF m 30 #[.val (.long q1), .second, .val (.long q2), .second, .val (.int p3), .val (.long (q1 &&& (9223372036854775807 : Int64))), .second, .val (.ref rH), .val (.long q2), .second, .unset, .unset, .unset] [(.int p3)])
    refine own_stW (fun _ kq => XS.iconst X1.here hx rfl (hb hby at_30) kq) ?_
    show own_EndsW _ _ _ _ _ _ _ T1 (mkF m 31 #[.val (.long q1), .second, .val (.long q2), .second, .val (.int p3), .val (.long (q1 &&& (9223372036854775807 : Int64))), .second, .val (.ref rH), .val (.long q2), .second, .unset, .unset, .unset] [(.int (2 : Int32)), (.int p3)])
    refine own_stW (fun _ kq => XS.iand X1.here hx rfl (hb hby at_31) rfl kq) ?_
    show own_EndsW _ _ _ _ _ _ _ T1 (mkF m 32 #[.val (.long q1), .second, .val (.long q2), .second, .val (.int p3), .val (.long (q1 &&& (9223372036854775807 : Int64))), .second, .val (.ref rH), .val (.long q2), .second, .unset, .unset, .unset] [(.int (p3 &&& (2 : Int32)))])
    by_cases hc32 : (p3 &&& (2 : Int32)) = (0 : Int32)
    · skip
      refine own_stW (fun _ kq => XS.ifYes X1.here hx rfl (pc0 := 32) (pc' := 49) rfl (hb hby at_32) rfl ((if0 _ _).trans (teq hc32).1) (by decide) (by decide) kq) ?_
      show own_EndsW _ _ _ _ _ _ _ T1 (mkF m 49 #[.val (.long q1), .second, .val (.long q2), .second, .val (.int p3), .val (.long (q1 &&& (9223372036854775807 : Int64))), .second, .val (.ref rH), .val (.long q2), .second, .unset, .unset, .unset] [])
      obtain ⟨T2, h2, X2, e2, E2, A2, D2, -, st2⟩ := newO X1 hx hZ hown (hw _ (List.mem_of_getElem? (i := 4) rfl)) (hw _ (List.mem_of_getElem? (i := 5) rfl)) (hw _ (List.mem_of_getElem? (i := 6) rfl)) e1 (g := (mkF m 49 #[.val (.long q1), .second, .val (.long q2), .second, .val (.int p3), .val (.long (q1 &&& (9223372036854775807 : Int64))), .second, .val (.ref rH), .val (.long q2), .second, .unset, .unset, .unset] [])) rfl (hb hby at_49) (by decide) (by decide)
      obtain ⟨b2, g2⟩ : ∃ z, z = h0.size := ⟨_, rfl⟩
      rw [← g2] at A2 D2 st2
      have g_b2 : n0 ≤ b2 := Nat.le_trans (O0.1 ▸ O0.2.1) (Nat.le_of_eq g2.symm)
      have sz_b2 : h0.size ≤ b2 := Nat.le_trans (Keep.refl h0 []).1 (Nat.le_of_eq g2.symm)
      have O2 := O0.ext E2
      have hk := Nat.le_trans hk E2.1
      refine own_stW st2 ?_
      have F2_name : Fld Z h2 b2 "com/example/seatledger/seatledger/model/Volume" "name" "Ljava/lang/String;" .null := D2 (Or.inr (hw _ (List.mem_of_getElem? (i := 33) rfl))) (ty := (.object "java/lang/String")) (by decide)
      have F2_capacity : Fld Z h2 b2 "com/example/seatledger/seatledger/model/Volume" "capacity" "J" (.long (0 : Int64)) := D2 (Or.inr (hw _ (List.mem_of_getElem? (i := 35) rfl))) (ty := .long) (by decide)
      have F2_policy : Fld Z h2 b2 "com/example/seatledger/seatledger/model/Volume" "policy" "Lcom/example/seatledger/seatledger/model/Policy;" .null := D2 (Or.inr (hw _ (List.mem_of_getElem? (i := 37) rfl))) (ty := (.object "com/example/seatledger/seatledger/model/Policy")) (by decide)
      show own_EndsW _ _ _ _ _ _ _ T2 (mkF m 52 #[.val (.long q1), .second, .val (.long q2), .second, .val (.int p3), .val (.long (q1 &&& (9223372036854775807 : Int64))), .second, .val (.ref rH), .val (.long q2), .second, .unset, .unset, .unset] [(.ref b2)])
      refine own_stW (fun _ kq => XS.dup X2.here hx rfl (hb hby at_52) rfl rfl kq) ?_
      show own_EndsW _ _ _ _ _ _ _ T2 (mkF m 53 #[.val (.long q1), .second, .val (.long q2), .second, .val (.int p3), .val (.long (q1 &&& (9223372036854775807 : Int64))), .second, .val (.ref rH), .val (.long q2), .second, .unset, .unset, .unset] [(.ref b2), (.ref b2)])
      obtain ⟨sl3, T3, h3, kk3, X3, e3, E3, hS, hk', hZ, hown, st3⟩ := ldcS X2 hx hZ hown (hw _ (List.mem_of_getElem? (i := 7) rfl)) (own_wS hw) e2 hS hk (g := (mkF m 53 #[.val (.long q1), .second, .val (.long q2), .second, .val (.int p3), .val (.long (q1 &&& (9223372036854775807 : Int64))), .second, .val (.ref rH), .val (.long q2), .second, .unset, .unset, .unset] [(.ref b2), (.ref b2)])) rfl (hb hby at_53) (n := 4) (by decide +kernel) (by decide) (by decide) (by decide)
      have O3 := O2.ext E3
      have hk := Nat.le_trans hk E3.1
      have hk := hk'
      refine own_stW st3 ?_
      show own_EndsW _ _ _ _ _ _ _ T3 (mkF m 55 #[.val (.long q1), .second, .val (.long q2), .second, .val (.int p3), .val (.long (q1 &&& (9223372036854775807 : Int64))), .second, .val (.ref rH), .val (.long q2), .second, .unset, .unset, .unset] [(.ref sl3), (.ref b2), (.ref b2)])
      refine own_stW (fun _ kq => XS.lload X3.here hx rfl (hb hby at_55) rfl kq) ?_
      show own_EndsW _ _ _ _ _ _ _ T3 (mkF m 57 #[.val (.long q1), .second, .val (.long q2), .second, .val (.int p3), .val (.long (q1 &&& (9223372036854775807 : Int64))), .second, .val (.ref rH), .val (.long q2), .second, .unset, .unset, .unset] [(.long (q1 &&& (9223372036854775807 : Int64))), (.ref sl3), (.ref b2), (.ref b2)])
      refine own_stW (fun _ kq => XS.aload X3.here hx rfl (hb hby at_57) rfl rfl kq) ?_
      show own_EndsW _ _ _ _ _ _ _ T3 (mkF m 59 #[.val (.long q1), .second, .val (.long q2), .second, .val (.int p3), .val (.long (q1 &&& (9223372036854775807 : Int64))), .second, .val (.ref rH), .val (.long q2), .second, .unset, .unset, .unset] [(.ref rH), (.long (q1 &&& (9223372036854775807 : Int64))), (.ref sl3), (.ref b2), (.ref b2)])
      obtain ⟨_, _, ⟨T4, L4, k4, n4⟩, -, X4, hS2, hgr, ⟨Lc4, hQ4, l4, y4, z4⟩, st4⟩ := X3.specialBackS hx (y := (⟨"com/example/seatledger/seatledger/model/Volume", "<init>", "(Ljava/lang/String;JLcom/example/seatledger/seatledger/model/Policy;)V"⟩ : MethodName)) rfl hown (mvT hZ (hw _ (List.mem_of_getElem? (i := 15) rfl))) (mvT hZ (hw _ (List.mem_of_getElem? (i := 16) rfl))) (mvT hZ (hw _ (List.mem_of_getElem? (i := 17) rfl))) (by decide) (backOfS (W := 1) (rm_init l Z a0 hw [] b2 sl3 (q1 &&& (9223372036854775807 : Int64)) rH h3 n0 O3 (A2.ext E3) (F2_name.ext E3) (F2_capacity.ext E3) (F2_policy.ext E3) g_b2 (own_cap q1)) hZ (hw _ (List.mem_of_getElem? (i := 17) rfl)) (hw _ (List.mem_of_getElem? (i := 6) rfl)) (by decide) (by decide)) (g := (mkF m 59 #[.val (.long q1), .second, .val (.long q2), .second, .val (.int p3), .val (.long (q1 &&& (9223372036854775807 : Int64))), .second, .val (.ref rH), .val (.long q2), .second, .unset, .unset, .unset] [(.ref rH), (.long (q1 &&& (9223372036854775807 : Int64))), (.ref sl3), (.ref b2), (.ref b2)])) rfl (by rw [hml]; rfl) (Steps.refl _) (a := b2) (argsL := [(.ref sl3), (.long (q1 &&& (9223372036854775807 : Int64))), (.ref rH)]) (rest := [(.ref b2)]) (lenOf pd_0 rfl) rfl (by show 2 * 0 + _ ≤ _; exact Nat.le_of_eq rfl) (hb hby at_59) (fun _ _ => ⟨rfl, e3, (by decide : 3 + 4 ≤ _), (by decide : 11 + 48 ≤ _)⟩)
      dsimp only [Pt.U, Pt.locs, Pt.cells, Pt.slots] at X4 l4 y4 z4 st4 hQ4 hS2 hgr
      subst l4 y4 z4
      have X4 : Stand p l e room_1 (s.setVm T4.vm) m #[(.long q1), (.long q2), (.int p3)] below meth c T4 _ _ _ := X4
      have hS := foldS hS (show _ ≤ T3.heap.size by rw [e3]; exact hk) hS2 hgr
      have hk := Nat.le_refl T4.heap.size
      have hZ : Z.Warmed39 (s.setVm T4.vm).vm := State.Warmed39.trans hZ hS2.1
      have hown : (s.setVm T4.vm).vm.findClass "com/example/seatledger/seatledger/model/VolumeAdmitsAnotherPinLaw" = some m.cls := by rw [show (s.setVm T4.vm).vm = T4.vm from rfl, hS2.1.alike.findClass]; exact hown
      obtain ⟨rfl, N4q, K4, O4, f4_0, f4_1, f4_2⟩ := hQ4
      have N4 := Fr.app N0 N4q
      refine own_trW st4 ?_
      show own_EndsW _ _ _ _ _ _ _ T4 (mkF m 62 #[.val (.long q1), .second, .val (.long q2), .second, .val (.int p3), .val (.long (q1 &&& (9223372036854775807 : Int64))), .second, .val (.ref rH), .val (.long q2), .second, .unset, .unset, .unset] [(.ref b2)])
      refine own_stW (fun _ kq => XS.astore X4.here hx rfl (hb hby at_62) rfl rfl (l' := #[.val (.long q1), .second, .val (.long q2), .second, .val (.int p3), .val (.long (q1 &&& (9223372036854775807 : Int64))), .second, .val (.ref rH), .val (.long q2), .second, .val (.ref b2), .unset, .unset]) rfl kq) ?_
      show own_EndsW _ _ _ _ _ _ _ T4 (mkF m 64 #[.val (.long q1), .second, .val (.long q2), .second, .val (.int p3), .val (.long (q1 &&& (9223372036854775807 : Int64))), .second, .val (.ref rH), .val (.long q2), .second, .val (.ref b2), .unset, .unset] [])
      refine own_stW (fun _ kq => XS.aload X4.here hx rfl (hb hby at_64) rfl rfl kq) ?_
      show own_EndsW _ _ _ _ _ _ _ T4 (mkF m 66 #[.val (.long q1), .second, .val (.long q2), .second, .val (.int p3), .val (.long (q1 &&& (9223372036854775807 : Int64))), .second, .val (.ref rH), .val (.long q2), .second, .val (.ref b2), .unset, .unset] [(.ref b2)])
      refine own_stW (fun _ kq => XS.lload X4.here hx rfl (hb hby at_66) rfl kq) ?_
      show own_EndsW _ _ _ _ _ _ _ T4 (mkF m 68 #[.val (.long q1), .second, .val (.long q2), .second, .val (.int p3), .val (.long (q1 &&& (9223372036854775807 : Int64))), .second, .val (.ref rH), .val (.long q2), .second, .val (.ref b2), .unset, .unset] [(.long q2), (.ref b2)])
      obtain ⟨cq5, kq5, q5a, q5b, q5c⟩ := isOf hZ rfl f4_0
      obtain ⟨_, _, ⟨T5, L5, k5, n5⟩, -, X5, ⟨Lc5, hQ5, l5, y5, z5⟩, st5⟩ := X4.virtualBack hx (y := (⟨"com/example/seatledger/seatledger/model/Volume", "admitsAnother", "(J)Z"⟩ : MethodName)) (z := (⟨"com/example/seatledger/seatledger/model/Volume", "admitsAnother", "(J)Z"⟩ : MethodName)) hown (mvT hZ (hw _ (List.mem_of_getElem? (i := 38) rfl))) (mvT hZ (hw _ (List.mem_of_getElem? (i := 39) rfl))) (notFace_of_selects (args := #[]) (mvT hZ (hw _ (List.mem_of_getElem? (i := 41) rfl)))) (mvT hZ (hw _ (List.mem_of_getElem? (i := 41) rfl))) (mvT hZ (hw _ (List.mem_of_getElem? (i := 40) rfl))) (by decide) (backOf (W := 0) (rm_admH l Z a0 hw [] b2 q2 (q1 &&& (9223372036854775807 : Int64)) rH rS T4.heap n0 O4 f4_1 f4_2 G) hZ (hw _ (List.mem_of_getElem? (i := 42) rfl)) (hw _ (List.mem_of_getElem? (i := 6) rfl)) (by decide) (by decide)) q5a q5c (g := (mkF m 68 #[.val (.long q1), .second, .val (.long q2), .second, .val (.int p3), .val (.long (q1 &&& (9223372036854775807 : Int64))), .second, .val (.ref rH), .val (.long q2), .second, .val (.ref b2), .unset, .unset] [(.long q2), (.ref b2)])) rfl (by rw [hml]; rfl) (Steps.refl _) (argsL := [(.long q2)]) (rest := []) (lenOf pd_3 rfl) rfl (by show 2 * 0 + _ ≤ _; exact Nat.le_of_eq rfl) (hb hby at_68) (fun _ _ => ⟨rfl, rfl, (by decide : 7 + 0 ≤ _), (by decide : 59 + 0 ≤ _)⟩)
      dsimp only [Pt.U, Pt.locs, Pt.cells, Pt.slots] at X5 l5 y5 z5 st5 hQ5
      subst l5 y5 z5
      obtain ⟨rfl, N5q, e5⟩ := hQ5
      have N5 := Fr.app N4 N5q
      refine own_trW st5 ?_
      show own_EndsW _ _ _ _ _ _ _ T5 (mkF m 71 #[.val (.long q1), .second, .val (.long q2), .second, .val (.int p3), .val (.long (q1 &&& (9223372036854775807 : Int64))), .second, .val (.ref rH), .val (.long q2), .second, .val (.ref b2), .unset, .unset] [(.int (if q2 < (q1 &&& (9223372036854775807 : Int64)) then (1 : Int32) else 0))])
      refine own_stW (fun _ kq => XS.istore X5.here hx rfl (hb hby at_71) rfl (l' := #[.val (.long q1), .second, .val (.long q2), .second, .val (.int p3), .val (.long (q1 &&& (9223372036854775807 : Int64))), .second, .val (.ref rH), .val (.long q2), .second, .val (.ref b2), .val (.int (if q2 < (q1 &&& (9223372036854775807 : Int64)) then (1 : Int32) else 0)), .unset]) rfl kq) ?_
      show own_EndsW _ _ _ _ _ _ _ T5 (mkF m 73 #[.val (.long q1), .second, .val (.long q2), .second, .val (.int p3), .val (.long (q1 &&& (9223372036854775807 : Int64))), .second, .val (.ref rH), .val (.long q2), .second, .val (.ref b2), .val (.int (if q2 < (q1 &&& (9223372036854775807 : Int64)) then (1 : Int32) else 0)), .unset] [])
      refine own_stW (fun _ kq => XS.aload X5.here hx rfl (hb hby at_73) rfl rfl kq) ?_
      show own_EndsW _ _ _ _ _ _ _ T5 (mkF m 75 #[.val (.long q1), .second, .val (.long q2), .second, .val (.int p3), .val (.long (q1 &&& (9223372036854775807 : Int64))), .second, .val (.ref rH), .val (.long q2), .second, .val (.ref b2), .val (.int (if q2 < (q1 &&& (9223372036854775807 : Int64)) then (1 : Int32) else 0)), .unset] [(.ref rH)])
      obtain ⟨T6, X6, e6, st6⟩ := getS2 X5 hx hZ hown (host := "") (Or.inl (hw _ (List.mem_of_getElem? (i := 50) rfl))) Via.refl e5 (S_S.ext O4.2) (g := (mkF m 75 #[.val (.long q1), .second, .val (.long q2), .second, .val (.int p3), .val (.long (q1 &&& (9223372036854775807 : Int64))), .second, .val (.ref rH), .val (.long q2), .second, .val (.ref b2), .val (.int (if q2 < (q1 &&& (9223372036854775807 : Int64)) then (1 : Int32) else 0)), .unset] [(.ref rH)])) rfl (hb hby at_75)
      refine own_stW st6 ?_
      show own_EndsW _ _ _ _ _ _ _ T6 (mkF m 78 #[.val (.long q1), .second, .val (.long q2), .second, .val (.int p3), .val (.long (q1 &&& (9223372036854775807 : Int64))), .second, .val (.ref rH), .val (.long q2), .second, .val (.ref b2), .val (.int (if q2 < (q1 &&& (9223372036854775807 : Int64)) then (1 : Int32) else 0)), .unset] [(.ref rS), (.ref rH)])
      refine own_stW (fun _ kq => Jvm.RoadKit.acmp (g := (mkF m 78 #[.val (.long q1), .second, .val (.long q2), .second, .val (.int p3), .val (.long (q1 &&& (9223372036854775807 : Int64))), .second, .val (.ref rH), .val (.long q2), .second, .val (.ref b2), .val (.int (if q2 < (q1 &&& (9223372036854775807 : Int64)) then (1 : Int32) else 0)), .unset] [(.ref rS), (.ref rH)])) X6 hx rfl rfl rfl (pc0 := 78) (pc' := 87) (same := false) rfl (hb hby at_78) rfl (decide_eq_false fun q => (F_H_exceedable.ne F_S_exceedable (by decide)) (Value.ref.inj q)) (by decide) (by decide) kq) ?_
      show own_EndsW _ _ _ _ _ _ _ T6 (mkF m 87 #[.val (.long q1), .second, .val (.long q2), .second, .val (.int p3), .val (.long (q1 &&& (9223372036854775807 : Int64))), .second, .val (.ref rH), .val (.long q2), .second, .val (.ref b2), .val (.int (if q2 < (q1 &&& (9223372036854775807 : Int64)) then (1 : Int32) else 0)), .unset] [])
      refine own_stW (fun _ kq => XS.lload X6.here hx rfl (hb hby at_87) rfl kq) ?_
      show own_EndsW _ _ _ _ _ _ _ T6 (mkF m 89 #[.val (.long q1), .second, .val (.long q2), .second, .val (.int p3), .val (.long (q1 &&& (9223372036854775807 : Int64))), .second, .val (.ref rH), .val (.long q2), .second, .val (.ref b2), .val (.int (if q2 < (q1 &&& (9223372036854775807 : Int64)) then (1 : Int32) else 0)), .unset] [(.long q2)])
      refine own_stW (fun _ kq => XS.lload X6.here hx rfl (hb hby at_89) rfl kq) ?_
      show own_EndsW _ _ _ _ _ _ _ T6 (mkF m 91 #[.val (.long q1), .second, .val (.long q2), .second, .val (.int p3), .val (.long (q1 &&& (9223372036854775807 : Int64))), .second, .val (.ref rH), .val (.long q2), .second, .val (.ref b2), .val (.int (if q2 < (q1 &&& (9223372036854775807 : Int64)) then (1 : Int32) else 0)), .unset] [(.long (q1 &&& (9223372036854775807 : Int64))), (.long q2)])
      refine own_stW (fun _ kq => XS.lcmp X6.here hx rfl (hb hby at_91) rfl kq) ?_
      show own_EndsW _ _ _ _ _ _ _ T6 (mkF m 92 #[.val (.long q1), .second, .val (.long q2), .second, .val (.int p3), .val (.long (q1 &&& (9223372036854775807 : Int64))), .second, .val (.ref rH), .val (.long q2), .second, .val (.ref b2), .val (.int (if q2 < (q1 &&& (9223372036854775807 : Int64)) then (1 : Int32) else 0)), .unset] [(.int (lcmpW q2 (q1 &&& (9223372036854775807 : Int64))))])
      by_cases hc92 : (lcmpW q2 (q1 &&& (9223372036854775807 : Int64))) < (0 : Int32)
      · skip
        refine own_stW (fun _ kq => XS.ifNo X6.here hx rfl (hb hby at_92) rfl ((if0 _ _).trans (tlt hc92).2.1) kq) ?_
        show own_EndsW _ _ _ _ _ _ _ T6 (mkF m 95 #[.val (.long q1), .second, .val (.long q2), .second, .val (.int p3), .val (.long (q1 &&& (9223372036854775807 : Int64))), .second, .val (.ref rH), .val (.long q2), .second, .val (.ref b2), .val (.int (if q2 < (q1 &&& (9223372036854775807 : Int64)) then (1 : Int32) else 0)), .unset] [])
        refine own_stW (fun _ kq => XS.iconst X6.here hx rfl (hb hby at_95) kq) ?_
        show own_EndsW _ _ _ _ _ _ _ T6 (mkF m 96 #[.val (.long q1), .second, .val (.long q2), .second, .val (.int p3), .val (.long (q1 &&& (9223372036854775807 : Int64))), .second, .val (.ref rH), .val (.long q2), .second, .val (.ref b2), .val (.int (if q2 < (q1 &&& (9223372036854775807 : Int64)) then (1 : Int32) else 0)), .unset] [(.int (1 : Int32))])
        refine own_stW (fun _ kq => XS.goto X6.here hx rfl (pc0 := 96) (pc' := 100) rfl (hb hby at_96) (by decide) (by decide) kq) ?_
        show own_EndsW _ _ _ _ _ _ _ T6 (mkF m 100 #[.val (.long q1), .second, .val (.long q2), .second, .val (.int p3), .val (.long (q1 &&& (9223372036854775807 : Int64))), .second, .val (.ref rH), .val (.long q2), .second, .val (.ref b2), .val (.int (if q2 < (q1 &&& (9223372036854775807 : Int64)) then (1 : Int32) else 0)), .unset] [(.int (1 : Int32))])
        refine own_stW (fun _ kq => XS.istore X6.here hx rfl (hb hby at_100) rfl (l' := #[.val (.long q1), .second, .val (.long q2), .second, .val (.int p3), .val (.long (q1 &&& (9223372036854775807 : Int64))), .second, .val (.ref rH), .val (.long q2), .second, .val (.ref b2), .val (.int (if q2 < (q1 &&& (9223372036854775807 : Int64)) then (1 : Int32) else 0)), .val (.int (1 : Int32))]) rfl kq) ?_
        show own_EndsW _ _ _ _ _ _ _ T6 (mkF m 102 #[.val (.long q1), .second, .val (.long q2), .second, .val (.int p3), .val (.long (q1 &&& (9223372036854775807 : Int64))), .second, .val (.ref rH), .val (.long q2), .second, .val (.ref b2), .val (.int (if q2 < (q1 &&& (9223372036854775807 : Int64)) then (1 : Int32) else 0)), .val (.int (1 : Int32))] [])
        refine own_stW (fun _ kq => XS.iload X6.here hx rfl (hb hby at_102) rfl kq) ?_
        show own_EndsW _ _ _ _ _ _ _ T6 (mkF m 104 #[.val (.long q1), .second, .val (.long q2), .second, .val (.int p3), .val (.long (q1 &&& (9223372036854775807 : Int64))), .second, .val (.ref rH), .val (.long q2), .second, .val (.ref b2), .val (.int (if q2 < (q1 &&& (9223372036854775807 : Int64)) then (1 : Int32) else 0)), .val (.int (1 : Int32))] [(.int (if q2 < (q1 &&& (9223372036854775807 : Int64)) then (1 : Int32) else 0))])
        refine own_stW (fun _ kq => XS.iload X6.here hx rfl (hb hby at_104) rfl kq) ?_
        show own_EndsW _ _ _ _ _ _ _ T6 (mkF m 106 #[.val (.long q1), .second, .val (.long q2), .second, .val (.int p3), .val (.long (q1 &&& (9223372036854775807 : Int64))), .second, .val (.ref rH), .val (.long q2), .second, .val (.ref b2), .val (.int (if q2 < (q1 &&& (9223372036854775807 : Int64)) then (1 : Int32) else 0)), .val (.int (1 : Int32))] [(.int (1 : Int32)), (.int (if q2 < (q1 &&& (9223372036854775807 : Int64)) then (1 : Int32) else 0))])
        have hm : (if q2 < (q1 &&& (9223372036854775807 : Int64)) then (1 : Int32) else 0) = (1 : Int32) := if_pos ((lw_lt _ _).mp hc92)
        show own_EndsW _ _ _ _ _ _ _ T6 (mkF m 106 #[.val (.long q1), .second, .val (.long q2), .second, .val (.int p3), .val (.long (q1 &&& (9223372036854775807 : Int64))), .second, .val (.ref rH), .val (.long q2), .second, .val (.ref b2), .val (.int (if q2 < (q1 &&& (9223372036854775807 : Int64)) then (1 : Int32) else 0)), .val (.int (1 : Int32))] [(.int (1 : Int32)), (.int (if q2 < (q1 &&& (9223372036854775807 : Int64)) then (1 : Int32) else 0))])
        refine own_stW (fun _ kq => XS.icmpNo X6.here hx rfl (hb hby at_106) rfl (teq hm).2 kq) ?_
        show own_EndsW _ _ _ _ _ _ _ T6 (mkF m 109 #[.val (.long q1), .second, .val (.long q2), .second, .val (.int p3), .val (.long (q1 &&& (9223372036854775807 : Int64))), .second, .val (.ref rH), .val (.long q2), .second, .val (.ref b2), .val (.int (if q2 < (q1 &&& (9223372036854775807 : Int64)) then (1 : Int32) else 0)), .val (.int (1 : Int32))] [])
        refine own_stW (fun _ kq => XS.iconst X6.here hx rfl (hb hby at_109) kq) ?_
        show own_EndsW _ _ _ _ _ _ _ T6 (mkF m 110 #[.val (.long q1), .second, .val (.long q2), .second, .val (.int p3), .val (.long (q1 &&& (9223372036854775807 : Int64))), .second, .val (.ref rH), .val (.long q2), .second, .val (.ref b2), .val (.int (if q2 < (q1 &&& (9223372036854775807 : Int64)) then (1 : Int32) else 0)), .val (.int (1 : Int32))] [(.int (1 : Int32))])
        refine own_stW (fun _ kq => XS.goto X6.here hx rfl (pc0 := 110) (pc' := 114) rfl (hb hby at_110) (by decide) (by decide) kq) ?_
        show own_EndsW _ _ _ _ _ _ _ T6 (mkF m 114 #[.val (.long q1), .second, .val (.long q2), .second, .val (.int p3), .val (.long (q1 &&& (9223372036854775807 : Int64))), .second, .val (.ref rH), .val (.long q2), .second, .val (.ref b2), .val (.int (if q2 < (q1 &&& (9223372036854775807 : Int64)) then (1 : Int32) else 0)), .val (.int (1 : Int32))] [(.int (1 : Int32))])
        refine own_retNW X6 hS (by rw [e6]; exact hk) hx (t := .boolean) Bd.returns (by simp) (hb hby at_114) hlk (by decide) (by decide) (w := (1 : Int32)) (by decide) ?_
        show Q_rm_law Z q1 q2 p3 rH rS h0 n0 _ T6.heap _
        rw [e6]
        exact ⟨rfl, N5⟩
      · skip
        refine own_stW (fun _ kq => XS.ifYes X6.here hx rfl (pc0 := 92) (pc' := 99) rfl (hb hby at_92) rfl ((if0 _ _).trans (flt hc92).2.1) (by decide) (by decide) kq) ?_
        show own_EndsW _ _ _ _ _ _ _ T6 (mkF m 99 #[.val (.long q1), .second, .val (.long q2), .second, .val (.int p3), .val (.long (q1 &&& (9223372036854775807 : Int64))), .second, .val (.ref rH), .val (.long q2), .second, .val (.ref b2), .val (.int (if q2 < (q1 &&& (9223372036854775807 : Int64)) then (1 : Int32) else 0)), .unset] [])
        refine own_stW (fun _ kq => XS.iconst X6.here hx rfl (hb hby at_99) kq) ?_
        show own_EndsW _ _ _ _ _ _ _ T6 (mkF m 100 #[.val (.long q1), .second, .val (.long q2), .second, .val (.int p3), .val (.long (q1 &&& (9223372036854775807 : Int64))), .second, .val (.ref rH), .val (.long q2), .second, .val (.ref b2), .val (.int (if q2 < (q1 &&& (9223372036854775807 : Int64)) then (1 : Int32) else 0)), .unset] [(.int (0 : Int32))])
        refine own_stW (fun _ kq => XS.istore X6.here hx rfl (hb hby at_100) rfl (l' := #[.val (.long q1), .second, .val (.long q2), .second, .val (.int p3), .val (.long (q1 &&& (9223372036854775807 : Int64))), .second, .val (.ref rH), .val (.long q2), .second, .val (.ref b2), .val (.int (if q2 < (q1 &&& (9223372036854775807 : Int64)) then (1 : Int32) else 0)), .val (.int (0 : Int32))]) rfl kq) ?_
        show own_EndsW _ _ _ _ _ _ _ T6 (mkF m 102 #[.val (.long q1), .second, .val (.long q2), .second, .val (.int p3), .val (.long (q1 &&& (9223372036854775807 : Int64))), .second, .val (.ref rH), .val (.long q2), .second, .val (.ref b2), .val (.int (if q2 < (q1 &&& (9223372036854775807 : Int64)) then (1 : Int32) else 0)), .val (.int (0 : Int32))] [])
        refine own_stW (fun _ kq => XS.iload X6.here hx rfl (hb hby at_102) rfl kq) ?_
        show own_EndsW _ _ _ _ _ _ _ T6 (mkF m 104 #[.val (.long q1), .second, .val (.long q2), .second, .val (.int p3), .val (.long (q1 &&& (9223372036854775807 : Int64))), .second, .val (.ref rH), .val (.long q2), .second, .val (.ref b2), .val (.int (if q2 < (q1 &&& (9223372036854775807 : Int64)) then (1 : Int32) else 0)), .val (.int (0 : Int32))] [(.int (if q2 < (q1 &&& (9223372036854775807 : Int64)) then (1 : Int32) else 0))])
        refine own_stW (fun _ kq => XS.iload X6.here hx rfl (hb hby at_104) rfl kq) ?_
        show own_EndsW _ _ _ _ _ _ _ T6 (mkF m 106 #[.val (.long q1), .second, .val (.long q2), .second, .val (.int p3), .val (.long (q1 &&& (9223372036854775807 : Int64))), .second, .val (.ref rH), .val (.long q2), .second, .val (.ref b2), .val (.int (if q2 < (q1 &&& (9223372036854775807 : Int64)) then (1 : Int32) else 0)), .val (.int (0 : Int32))] [(.int (0 : Int32)), (.int (if q2 < (q1 &&& (9223372036854775807 : Int64)) then (1 : Int32) else 0))])
        have hm : (if q2 < (q1 &&& (9223372036854775807 : Int64)) then (1 : Int32) else 0) = (0 : Int32) := if_neg (fun q => hc92 ((lw_lt _ _).mpr q))
        show own_EndsW _ _ _ _ _ _ _ T6 (mkF m 106 #[.val (.long q1), .second, .val (.long q2), .second, .val (.int p3), .val (.long (q1 &&& (9223372036854775807 : Int64))), .second, .val (.ref rH), .val (.long q2), .second, .val (.ref b2), .val (.int (if q2 < (q1 &&& (9223372036854775807 : Int64)) then (1 : Int32) else 0)), .val (.int (0 : Int32))] [(.int (0 : Int32)), (.int (if q2 < (q1 &&& (9223372036854775807 : Int64)) then (1 : Int32) else 0))])
        refine own_stW (fun _ kq => XS.icmpNo X6.here hx rfl (hb hby at_106) rfl (teq hm).2 kq) ?_
        show own_EndsW _ _ _ _ _ _ _ T6 (mkF m 109 #[.val (.long q1), .second, .val (.long q2), .second, .val (.int p3), .val (.long (q1 &&& (9223372036854775807 : Int64))), .second, .val (.ref rH), .val (.long q2), .second, .val (.ref b2), .val (.int (if q2 < (q1 &&& (9223372036854775807 : Int64)) then (1 : Int32) else 0)), .val (.int (0 : Int32))] [])
        refine own_stW (fun _ kq => XS.iconst X6.here hx rfl (hb hby at_109) kq) ?_
        show own_EndsW _ _ _ _ _ _ _ T6 (mkF m 110 #[.val (.long q1), .second, .val (.long q2), .second, .val (.int p3), .val (.long (q1 &&& (9223372036854775807 : Int64))), .second, .val (.ref rH), .val (.long q2), .second, .val (.ref b2), .val (.int (if q2 < (q1 &&& (9223372036854775807 : Int64)) then (1 : Int32) else 0)), .val (.int (0 : Int32))] [(.int (1 : Int32))])
        refine own_stW (fun _ kq => XS.goto X6.here hx rfl (pc0 := 110) (pc' := 114) rfl (hb hby at_110) (by decide) (by decide) kq) ?_
        show own_EndsW _ _ _ _ _ _ _ T6 (mkF m 114 #[.val (.long q1), .second, .val (.long q2), .second, .val (.int p3), .val (.long (q1 &&& (9223372036854775807 : Int64))), .second, .val (.ref rH), .val (.long q2), .second, .val (.ref b2), .val (.int (if q2 < (q1 &&& (9223372036854775807 : Int64)) then (1 : Int32) else 0)), .val (.int (0 : Int32))] [(.int (1 : Int32))])
        refine own_retNW X6 hS (by rw [e6]; exact hk) hx (t := .boolean) Bd.returns (by simp) (hb hby at_114) hlk (by decide) (by decide) (w := (1 : Int32)) (by decide) ?_
        show Q_rm_law Z q1 q2 p3 rH rS h0 n0 _ T6.heap _
        rw [e6]
        exact ⟨rfl, N5⟩
    · skip
      refine own_stW (fun _ kq => XS.ifNo X1.here hx rfl (hb hby at_32) rfl ((if0 _ _).trans (feq hc32).1) kq) ?_
      show own_EndsW _ _ _ _ _ _ _ T1 (mkF m 35 #[.val (.long q1), .second, .val (.long q2), .second, .val (.int p3), .val (.long (q1 &&& (9223372036854775807 : Int64))), .second, .val (.ref rH), .val (.long q2), .second, .unset, .unset, .unset] [])
      refine own_stW (fun _ kq => XS.lload X1.here hx rfl (hb hby at_35) rfl kq) ?_
      show own_EndsW _ _ _ _ _ _ _ T1 (mkF m 37 #[.val (.long q1), .second, .val (.long q2), .second, .val (.int p3), .val (.long (q1 &&& (9223372036854775807 : Int64))), .second, .val (.ref rH), .val (.long q2), .second, .unset, .unset, .unset] [(.long (q1 &&& (9223372036854775807 : Int64)))])
      refine own_stW (fun _ kq => XS.iload X1.here hx rfl (hb hby at_37) rfl kq) ?_
      show own_EndsW _ _ _ _ _ _ _ T1 (mkF m 39 #[.val (.long q1), .second, .val (.long q2), .second, .val (.int p3), .val (.long (q1 &&& (9223372036854775807 : Int64))), .second, .val (.ref rH), .val (.long q2), .second, .unset, .unset, .unset] [(.int p3), (.long (q1 &&& (9223372036854775807 : Int64)))])
      refine own_stW (fun _ kq => XS.iconst X1.here hx rfl (hb hby at_39) kq) ?_
      show own_EndsW _ _ _ _ _ _ _ T1 (mkF m 40 #[.val (.long q1), .second, .val (.long q2), .second, .val (.int p3), .val (.long (q1 &&& (9223372036854775807 : Int64))), .second, .val (.ref rH), .val (.long q2), .second, .unset, .unset, .unset] [(.int (2 : Int32)), (.int p3), (.long (q1 &&& (9223372036854775807 : Int64)))])
      refine own_stW (fun _ kq => XS.iushr X1.here hx rfl (hb hby at_40) rfl kq) ?_
      show own_EndsW _ _ _ _ _ _ _ T1 (mkF m 41 #[.val (.long q1), .second, .val (.long q2), .second, .val (.int p3), .val (.long (q1 &&& (9223372036854775807 : Int64))), .second, .val (.ref rH), .val (.long q2), .second, .unset, .unset, .unset] [(.int ((p3.toUInt32 >>> ((2 : Int32) &&& 31).toUInt32).toInt32)), (.long (q1 &&& (9223372036854775807 : Int64)))])
      refine own_stW (fun _ kq => XS.iconst X1.here hx rfl (hb hby at_41) kq) ?_
      show own_EndsW _ _ _ _ _ _ _ T1 (mkF m 42 #[.val (.long q1), .second, .val (.long q2), .second, .val (.int p3), .val (.long (q1 &&& (9223372036854775807 : Int64))), .second, .val (.ref rH), .val (.long q2), .second, .unset, .unset, .unset] [(.int (3 : Int32)), (.int ((p3.toUInt32 >>> ((2 : Int32) &&& 31).toUInt32).toInt32)), (.long (q1 &&& (9223372036854775807 : Int64)))])
      refine own_stW (fun _ kq => iremM (g := (mkF m 42 #[.val (.long q1), .second, .val (.long q2), .second, .val (.int p3), .val (.long (q1 &&& (9223372036854775807 : Int64))), .second, .val (.ref rH), .val (.long q2), .second, .unset, .unset, .unset] [(.int (3 : Int32)), (.int ((p3.toUInt32 >>> ((2 : Int32) &&& 31).toUInt32).toInt32)), (.long (q1 &&& (9223372036854775807 : Int64)))])) X1 hx rfl (hb hby at_42) rfl (by decide) kq) ?_
      show own_EndsW _ _ _ _ _ _ _ T1 (mkF m 43 #[.val (.long q1), .second, .val (.long q2), .second, .val (.int p3), .val (.long (q1 &&& (9223372036854775807 : Int64))), .second, .val (.ref rH), .val (.long q2), .second, .unset, .unset, .unset] [(.int (((p3.toUInt32 >>> ((2 : Int32) &&& 31).toUInt32).toInt32) % (3 : Int32))), (.long (q1 &&& (9223372036854775807 : Int64)))])
      refine own_stW (fun _ kq => XS.i2l X1.here hx rfl (hb hby at_43) rfl kq) ?_
      show own_EndsW _ _ _ _ _ _ _ T1 (mkF m 44 #[.val (.long q1), .second, .val (.long q2), .second, .val (.int p3), .val (.long (q1 &&& (9223372036854775807 : Int64))), .second, .val (.ref rH), .val (.long q2), .second, .unset, .unset, .unset] [(.long ((((p3.toUInt32 >>> ((2 : Int32) &&& 31).toUInt32).toInt32) % (3 : Int32)).toInt64)), (.long (q1 &&& (9223372036854775807 : Int64)))])
      refine own_stW (fun _ kq => XS.ladd X1.here hx rfl (hb hby at_44) rfl kq) ?_
      show own_EndsW _ _ _ _ _ _ _ T1 (mkF m 45 #[.val (.long q1), .second, .val (.long q2), .second, .val (.int p3), .val (.long (q1 &&& (9223372036854775807 : Int64))), .second, .val (.ref rH), .val (.long q2), .second, .unset, .unset, .unset] [(.long ((q1 &&& (9223372036854775807 : Int64)) + ((((p3.toUInt32 >>> ((2 : Int32) &&& 31).toUInt32).toInt32) % (3 : Int32)).toInt64)))])
      refine own_stW (fun _ kq => XS.lconst X1.here hx rfl (hb hby at_45) kq) ?_
      show own_EndsW _ _ _ _ _ _ _ T1 (mkF m 46 #[.val (.long q1), .second, .val (.long q2), .second, .val (.int p3), .val (.long (q1 &&& (9223372036854775807 : Int64))), .second, .val (.ref rH), .val (.long q2), .second, .unset, .unset, .unset] [(.long (1 : Int64)), (.long ((q1 &&& (9223372036854775807 : Int64)) + ((((p3.toUInt32 >>> ((2 : Int32) &&& 31).toUInt32).toInt32) % (3 : Int32)).toInt64)))])
      refine own_stW (fun _ kq => XS.lsub X1.here hx rfl (hb hby at_46) rfl kq) ?_
      show own_EndsW _ _ _ _ _ _ _ T1 (mkF m 47 #[.val (.long q1), .second, .val (.long q2), .second, .val (.int p3), .val (.long (q1 &&& (9223372036854775807 : Int64))), .second, .val (.ref rH), .val (.long q2), .second, .unset, .unset, .unset] [(.long (((q1 &&& (9223372036854775807 : Int64)) + ((((p3.toUInt32 >>> ((2 : Int32) &&& 31).toUInt32).toInt32) % (3 : Int32)).toInt64)) - (1 : Int64)))])
      refine own_stW (fun _ kq => XS.lstore X1.here hx rfl (hb hby at_47) rfl (l' := #[.val (.long q1), .second, .val (.long q2), .second, .val (.int p3), .val (.long (q1 &&& (9223372036854775807 : Int64))), .second, .val (.ref rH), .val (.long (((q1 &&& (9223372036854775807 : Int64)) + ((((p3.toUInt32 >>> ((2 : Int32) &&& 31).toUInt32).toInt32) % (3 : Int32)).toInt64)) - (1 : Int64))), .second, .unset, .unset, .unset]) rfl kq) ?_
      show own_EndsW _ _ _ _ _ _ _ T1 (mkF m 49 #[.val (.long q1), .second, .val (.long q2), .second, .val (.int p3), .val (.long (q1 &&& (9223372036854775807 : Int64))), .second, .val (.ref rH), .val (.long (((q1 &&& (9223372036854775807 : Int64)) + ((((p3.toUInt32 >>> ((2 : Int32) &&& 31).toUInt32).toInt32) % (3 : Int32)).toInt64)) - (1 : Int64))), .second, .unset, .unset, .unset] [])
      obtain ⟨T7, h7, X7, e7, E7, A7, D7, -, st7⟩ := newO X1 hx hZ hown (hw _ (List.mem_of_getElem? (i := 4) rfl)) (hw _ (List.mem_of_getElem? (i := 5) rfl)) (hw _ (List.mem_of_getElem? (i := 6) rfl)) e1 (g := (mkF m 49 #[.val (.long q1), .second, .val (.long q2), .second, .val (.int p3), .val (.long (q1 &&& (9223372036854775807 : Int64))), .second, .val (.ref rH), .val (.long (((q1 &&& (9223372036854775807 : Int64)) + ((((p3.toUInt32 >>> ((2 : Int32) &&& 31).toUInt32).toInt32) % (3 : Int32)).toInt64)) - (1 : Int64))), .second, .unset, .unset, .unset] [])) rfl (hb hby at_49) (by decide) (by decide)
      obtain ⟨b7, g7⟩ : ∃ z, z = h0.size := ⟨_, rfl⟩
      rw [← g7] at A7 D7 st7
      have g_b7 : n0 ≤ b7 := Nat.le_trans (O0.1 ▸ O0.2.1) (Nat.le_of_eq g7.symm)
      have sz_b7 : h0.size ≤ b7 := Nat.le_trans (Keep.refl h0 []).1 (Nat.le_of_eq g7.symm)
      have O7 := O0.ext E7
      have hk := Nat.le_trans hk E7.1
      refine own_stW st7 ?_
      have F7_name : Fld Z h7 b7 "com/example/seatledger/seatledger/model/Volume" "name" "Ljava/lang/String;" .null := D7 (Or.inr (hw _ (List.mem_of_getElem? (i := 33) rfl))) (ty := (.object "java/lang/String")) (by decide)
      have F7_capacity : Fld Z h7 b7 "com/example/seatledger/seatledger/model/Volume" "capacity" "J" (.long (0 : Int64)) := D7 (Or.inr (hw _ (List.mem_of_getElem? (i := 35) rfl))) (ty := .long) (by decide)
      have F7_policy : Fld Z h7 b7 "com/example/seatledger/seatledger/model/Volume" "policy" "Lcom/example/seatledger/seatledger/model/Policy;" .null := D7 (Or.inr (hw _ (List.mem_of_getElem? (i := 37) rfl))) (ty := (.object "com/example/seatledger/seatledger/model/Policy")) (by decide)
      show own_EndsW _ _ _ _ _ _ _ T7 (mkF m 52 #[.val (.long q1), .second, .val (.long q2), .second, .val (.int p3), .val (.long (q1 &&& (9223372036854775807 : Int64))), .second, .val (.ref rH), .val (.long (((q1 &&& (9223372036854775807 : Int64)) + ((((p3.toUInt32 >>> ((2 : Int32) &&& 31).toUInt32).toInt32) % (3 : Int32)).toInt64)) - (1 : Int64))), .second, .unset, .unset, .unset] [(.ref b7)])
      refine own_stW (fun _ kq => XS.dup X7.here hx rfl (hb hby at_52) rfl rfl kq) ?_
      show own_EndsW _ _ _ _ _ _ _ T7 (mkF m 53 #[.val (.long q1), .second, .val (.long q2), .second, .val (.int p3), .val (.long (q1 &&& (9223372036854775807 : Int64))), .second, .val (.ref rH), .val (.long (((q1 &&& (9223372036854775807 : Int64)) + ((((p3.toUInt32 >>> ((2 : Int32) &&& 31).toUInt32).toInt32) % (3 : Int32)).toInt64)) - (1 : Int64))), .second, .unset, .unset, .unset] [(.ref b7), (.ref b7)])
      obtain ⟨sl8, T8, h8, kk8, X8, e8, E8, hS, hk', hZ, hown, st8⟩ := ldcS X7 hx hZ hown (hw _ (List.mem_of_getElem? (i := 7) rfl)) (own_wS hw) e7 hS hk (g := (mkF m 53 #[.val (.long q1), .second, .val (.long q2), .second, .val (.int p3), .val (.long (q1 &&& (9223372036854775807 : Int64))), .second, .val (.ref rH), .val (.long (((q1 &&& (9223372036854775807 : Int64)) + ((((p3.toUInt32 >>> ((2 : Int32) &&& 31).toUInt32).toInt32) % (3 : Int32)).toInt64)) - (1 : Int64))), .second, .unset, .unset, .unset] [(.ref b7), (.ref b7)])) rfl (hb hby at_53) (n := 4) (by decide +kernel) (by decide) (by decide) (by decide)
      have O8 := O7.ext E8
      have hk := Nat.le_trans hk E8.1
      have hk := hk'
      refine own_stW st8 ?_
      show own_EndsW _ _ _ _ _ _ _ T8 (mkF m 55 #[.val (.long q1), .second, .val (.long q2), .second, .val (.int p3), .val (.long (q1 &&& (9223372036854775807 : Int64))), .second, .val (.ref rH), .val (.long (((q1 &&& (9223372036854775807 : Int64)) + ((((p3.toUInt32 >>> ((2 : Int32) &&& 31).toUInt32).toInt32) % (3 : Int32)).toInt64)) - (1 : Int64))), .second, .unset, .unset, .unset] [(.ref sl8), (.ref b7), (.ref b7)])
      refine own_stW (fun _ kq => XS.lload X8.here hx rfl (hb hby at_55) rfl kq) ?_
      show own_EndsW _ _ _ _ _ _ _ T8 (mkF m 57 #[.val (.long q1), .second, .val (.long q2), .second, .val (.int p3), .val (.long (q1 &&& (9223372036854775807 : Int64))), .second, .val (.ref rH), .val (.long (((q1 &&& (9223372036854775807 : Int64)) + ((((p3.toUInt32 >>> ((2 : Int32) &&& 31).toUInt32).toInt32) % (3 : Int32)).toInt64)) - (1 : Int64))), .second, .unset, .unset, .unset] [(.long (q1 &&& (9223372036854775807 : Int64))), (.ref sl8), (.ref b7), (.ref b7)])
      refine own_stW (fun _ kq => XS.aload X8.here hx rfl (hb hby at_57) rfl rfl kq) ?_
      show own_EndsW _ _ _ _ _ _ _ T8 (mkF m 59 #[.val (.long q1), .second, .val (.long q2), .second, .val (.int p3), .val (.long (q1 &&& (9223372036854775807 : Int64))), .second, .val (.ref rH), .val (.long (((q1 &&& (9223372036854775807 : Int64)) + ((((p3.toUInt32 >>> ((2 : Int32) &&& 31).toUInt32).toInt32) % (3 : Int32)).toInt64)) - (1 : Int64))), .second, .unset, .unset, .unset] [(.ref rH), (.long (q1 &&& (9223372036854775807 : Int64))), (.ref sl8), (.ref b7), (.ref b7)])
      obtain ⟨_, _, ⟨T9, L9, k9, n9⟩, -, X9, hS2, hgr, ⟨Lc9, hQ9, l9, y9, z9⟩, st9⟩ := X8.specialBackS hx (y := (⟨"com/example/seatledger/seatledger/model/Volume", "<init>", "(Ljava/lang/String;JLcom/example/seatledger/seatledger/model/Policy;)V"⟩ : MethodName)) rfl hown (mvT hZ (hw _ (List.mem_of_getElem? (i := 15) rfl))) (mvT hZ (hw _ (List.mem_of_getElem? (i := 16) rfl))) (mvT hZ (hw _ (List.mem_of_getElem? (i := 17) rfl))) (by decide) (backOfS (W := 1) (rm_init l Z a0 hw [] b7 sl8 (q1 &&& (9223372036854775807 : Int64)) rH h8 n0 O8 (A7.ext E8) (F7_name.ext E8) (F7_capacity.ext E8) (F7_policy.ext E8) g_b7 (own_cap q1)) hZ (hw _ (List.mem_of_getElem? (i := 17) rfl)) (hw _ (List.mem_of_getElem? (i := 6) rfl)) (by decide) (by decide)) (g := (mkF m 59 #[.val (.long q1), .second, .val (.long q2), .second, .val (.int p3), .val (.long (q1 &&& (9223372036854775807 : Int64))), .second, .val (.ref rH), .val (.long (((q1 &&& (9223372036854775807 : Int64)) + ((((p3.toUInt32 >>> ((2 : Int32) &&& 31).toUInt32).toInt32) % (3 : Int32)).toInt64)) - (1 : Int64))), .second, .unset, .unset, .unset] [(.ref rH), (.long (q1 &&& (9223372036854775807 : Int64))), (.ref sl8), (.ref b7), (.ref b7)])) rfl (by rw [hml]; rfl) (Steps.refl _) (a := b7) (argsL := [(.ref sl8), (.long (q1 &&& (9223372036854775807 : Int64))), (.ref rH)]) (rest := [(.ref b7)]) (lenOf pd_0 rfl) rfl (by show 2 * 0 + _ ≤ _; exact Nat.le_of_eq rfl) (hb hby at_59) (fun _ _ => ⟨rfl, e8, (by decide : 3 + 4 ≤ _), (by decide : 11 + 48 ≤ _)⟩)
      dsimp only [Pt.U, Pt.locs, Pt.cells, Pt.slots] at X9 l9 y9 z9 st9 hQ9 hS2 hgr
      subst l9 y9 z9
      have X9 : Stand p l e room_1 (s.setVm T9.vm) m #[(.long q1), (.long q2), (.int p3)] below meth c T9 _ _ _ := X9
      have hS := foldS hS (show _ ≤ T8.heap.size by rw [e8]; exact hk) hS2 hgr
      have hk := Nat.le_refl T9.heap.size
      have hZ : Z.Warmed39 (s.setVm T9.vm).vm := State.Warmed39.trans hZ hS2.1
      have hown : (s.setVm T9.vm).vm.findClass "com/example/seatledger/seatledger/model/VolumeAdmitsAnotherPinLaw" = some m.cls := by rw [show (s.setVm T9.vm).vm = T9.vm from rfl, hS2.1.alike.findClass]; exact hown
      obtain ⟨rfl, N9q, K9, O9, f9_0, f9_1, f9_2⟩ := hQ9
      have N9 := Fr.app N0 N9q
      refine own_trW st9 ?_
      show own_EndsW _ _ _ _ _ _ _ T9 (mkF m 62 #[.val (.long q1), .second, .val (.long q2), .second, .val (.int p3), .val (.long (q1 &&& (9223372036854775807 : Int64))), .second, .val (.ref rH), .val (.long (((q1 &&& (9223372036854775807 : Int64)) + ((((p3.toUInt32 >>> ((2 : Int32) &&& 31).toUInt32).toInt32) % (3 : Int32)).toInt64)) - (1 : Int64))), .second, .unset, .unset, .unset] [(.ref b7)])
      refine own_stW (fun _ kq => XS.astore X9.here hx rfl (hb hby at_62) rfl rfl (l' := #[.val (.long q1), .second, .val (.long q2), .second, .val (.int p3), .val (.long (q1 &&& (9223372036854775807 : Int64))), .second, .val (.ref rH), .val (.long (((q1 &&& (9223372036854775807 : Int64)) + ((((p3.toUInt32 >>> ((2 : Int32) &&& 31).toUInt32).toInt32) % (3 : Int32)).toInt64)) - (1 : Int64))), .second, .val (.ref b7), .unset, .unset]) rfl kq) ?_
      show own_EndsW _ _ _ _ _ _ _ T9 (mkF m 64 #[.val (.long q1), .second, .val (.long q2), .second, .val (.int p3), .val (.long (q1 &&& (9223372036854775807 : Int64))), .second, .val (.ref rH), .val (.long (((q1 &&& (9223372036854775807 : Int64)) + ((((p3.toUInt32 >>> ((2 : Int32) &&& 31).toUInt32).toInt32) % (3 : Int32)).toInt64)) - (1 : Int64))), .second, .val (.ref b7), .unset, .unset] [])
      refine own_stW (fun _ kq => XS.aload X9.here hx rfl (hb hby at_64) rfl rfl kq) ?_
      show own_EndsW _ _ _ _ _ _ _ T9 (mkF m 66 #[.val (.long q1), .second, .val (.long q2), .second, .val (.int p3), .val (.long (q1 &&& (9223372036854775807 : Int64))), .second, .val (.ref rH), .val (.long (((q1 &&& (9223372036854775807 : Int64)) + ((((p3.toUInt32 >>> ((2 : Int32) &&& 31).toUInt32).toInt32) % (3 : Int32)).toInt64)) - (1 : Int64))), .second, .val (.ref b7), .unset, .unset] [(.ref b7)])
      refine own_stW (fun _ kq => XS.lload X9.here hx rfl (hb hby at_66) rfl kq) ?_
      show own_EndsW _ _ _ _ _ _ _ T9 (mkF m 68 #[.val (.long q1), .second, .val (.long q2), .second, .val (.int p3), .val (.long (q1 &&& (9223372036854775807 : Int64))), .second, .val (.ref rH), .val (.long (((q1 &&& (9223372036854775807 : Int64)) + ((((p3.toUInt32 >>> ((2 : Int32) &&& 31).toUInt32).toInt32) % (3 : Int32)).toInt64)) - (1 : Int64))), .second, .val (.ref b7), .unset, .unset] [(.long (((q1 &&& (9223372036854775807 : Int64)) + ((((p3.toUInt32 >>> ((2 : Int32) &&& 31).toUInt32).toInt32) % (3 : Int32)).toInt64)) - (1 : Int64))), (.ref b7)])
      obtain ⟨cq10, kq10, q10a, q10b, q10c⟩ := isOf hZ rfl f9_0
      obtain ⟨_, _, ⟨T10, L10, k10, n10⟩, -, X10, ⟨Lc10, hQ10, l10, y10, z10⟩, st10⟩ := X9.virtualBack hx (y := (⟨"com/example/seatledger/seatledger/model/Volume", "admitsAnother", "(J)Z"⟩ : MethodName)) (z := (⟨"com/example/seatledger/seatledger/model/Volume", "admitsAnother", "(J)Z"⟩ : MethodName)) hown (mvT hZ (hw _ (List.mem_of_getElem? (i := 38) rfl))) (mvT hZ (hw _ (List.mem_of_getElem? (i := 39) rfl))) (notFace_of_selects (args := #[]) (mvT hZ (hw _ (List.mem_of_getElem? (i := 41) rfl)))) (mvT hZ (hw _ (List.mem_of_getElem? (i := 41) rfl))) (mvT hZ (hw _ (List.mem_of_getElem? (i := 40) rfl))) (by decide) (backOf (W := 0) (rm_admH l Z a0 hw [] b7 (((q1 &&& (9223372036854775807 : Int64)) + ((((p3.toUInt32 >>> ((2 : Int32) &&& 31).toUInt32).toInt32) % (3 : Int32)).toInt64)) - (1 : Int64)) (q1 &&& (9223372036854775807 : Int64)) rH rS T9.heap n0 O9 f9_1 f9_2 G) hZ (hw _ (List.mem_of_getElem? (i := 42) rfl)) (hw _ (List.mem_of_getElem? (i := 6) rfl)) (by decide) (by decide)) q10a q10c (g := (mkF m 68 #[.val (.long q1), .second, .val (.long q2), .second, .val (.int p3), .val (.long (q1 &&& (9223372036854775807 : Int64))), .second, .val (.ref rH), .val (.long (((q1 &&& (9223372036854775807 : Int64)) + ((((p3.toUInt32 >>> ((2 : Int32) &&& 31).toUInt32).toInt32) % (3 : Int32)).toInt64)) - (1 : Int64))), .second, .val (.ref b7), .unset, .unset] [(.long (((q1 &&& (9223372036854775807 : Int64)) + ((((p3.toUInt32 >>> ((2 : Int32) &&& 31).toUInt32).toInt32) % (3 : Int32)).toInt64)) - (1 : Int64))), (.ref b7)])) rfl (by rw [hml]; rfl) (Steps.refl _) (argsL := [(.long (((q1 &&& (9223372036854775807 : Int64)) + ((((p3.toUInt32 >>> ((2 : Int32) &&& 31).toUInt32).toInt32) % (3 : Int32)).toInt64)) - (1 : Int64)))]) (rest := []) (lenOf pd_3 rfl) rfl (by show 2 * 0 + _ ≤ _; exact Nat.le_of_eq rfl) (hb hby at_68) (fun _ _ => ⟨rfl, rfl, (by decide : 7 + 0 ≤ _), (by decide : 59 + 0 ≤ _)⟩)
      dsimp only [Pt.U, Pt.locs, Pt.cells, Pt.slots] at X10 l10 y10 z10 st10 hQ10
      subst l10 y10 z10
      obtain ⟨rfl, N10q, e10⟩ := hQ10
      have N10 := Fr.app N9 N10q
      refine own_trW st10 ?_
      show own_EndsW _ _ _ _ _ _ _ T10 (mkF m 71 #[.val (.long q1), .second, .val (.long q2), .second, .val (.int p3), .val (.long (q1 &&& (9223372036854775807 : Int64))), .second, .val (.ref rH), .val (.long (((q1 &&& (9223372036854775807 : Int64)) + ((((p3.toUInt32 >>> ((2 : Int32) &&& 31).toUInt32).toInt32) % (3 : Int32)).toInt64)) - (1 : Int64))), .second, .val (.ref b7), .unset, .unset] [(.int (if (((q1 &&& (9223372036854775807 : Int64)) + ((((p3.toUInt32 >>> ((2 : Int32) &&& 31).toUInt32).toInt32) % (3 : Int32)).toInt64)) - (1 : Int64)) < (q1 &&& (9223372036854775807 : Int64)) then (1 : Int32) else 0))])
      refine own_stW (fun _ kq => XS.istore X10.here hx rfl (hb hby at_71) rfl (l' := #[.val (.long q1), .second, .val (.long q2), .second, .val (.int p3), .val (.long (q1 &&& (9223372036854775807 : Int64))), .second, .val (.ref rH), .val (.long (((q1 &&& (9223372036854775807 : Int64)) + ((((p3.toUInt32 >>> ((2 : Int32) &&& 31).toUInt32).toInt32) % (3 : Int32)).toInt64)) - (1 : Int64))), .second, .val (.ref b7), .val (.int (if (((q1 &&& (9223372036854775807 : Int64)) + ((((p3.toUInt32 >>> ((2 : Int32) &&& 31).toUInt32).toInt32) % (3 : Int32)).toInt64)) - (1 : Int64)) < (q1 &&& (9223372036854775807 : Int64)) then (1 : Int32) else 0)), .unset]) rfl kq) ?_
      show own_EndsW _ _ _ _ _ _ _ T10 (mkF m 73 #[.val (.long q1), .second, .val (.long q2), .second, .val (.int p3), .val (.long (q1 &&& (9223372036854775807 : Int64))), .second, .val (.ref rH), .val (.long (((q1 &&& (9223372036854775807 : Int64)) + ((((p3.toUInt32 >>> ((2 : Int32) &&& 31).toUInt32).toInt32) % (3 : Int32)).toInt64)) - (1 : Int64))), .second, .val (.ref b7), .val (.int (if (((q1 &&& (9223372036854775807 : Int64)) + ((((p3.toUInt32 >>> ((2 : Int32) &&& 31).toUInt32).toInt32) % (3 : Int32)).toInt64)) - (1 : Int64)) < (q1 &&& (9223372036854775807 : Int64)) then (1 : Int32) else 0)), .unset] [])
      refine own_stW (fun _ kq => XS.aload X10.here hx rfl (hb hby at_73) rfl rfl kq) ?_
      show own_EndsW _ _ _ _ _ _ _ T10 (mkF m 75 #[.val (.long q1), .second, .val (.long q2), .second, .val (.int p3), .val (.long (q1 &&& (9223372036854775807 : Int64))), .second, .val (.ref rH), .val (.long (((q1 &&& (9223372036854775807 : Int64)) + ((((p3.toUInt32 >>> ((2 : Int32) &&& 31).toUInt32).toInt32) % (3 : Int32)).toInt64)) - (1 : Int64))), .second, .val (.ref b7), .val (.int (if (((q1 &&& (9223372036854775807 : Int64)) + ((((p3.toUInt32 >>> ((2 : Int32) &&& 31).toUInt32).toInt32) % (3 : Int32)).toInt64)) - (1 : Int64)) < (q1 &&& (9223372036854775807 : Int64)) then (1 : Int32) else 0)), .unset] [(.ref rH)])
      obtain ⟨T11, X11, e11, st11⟩ := getS2 X10 hx hZ hown (host := "") (Or.inl (hw _ (List.mem_of_getElem? (i := 50) rfl))) Via.refl e10 (S_S.ext O9.2) (g := (mkF m 75 #[.val (.long q1), .second, .val (.long q2), .second, .val (.int p3), .val (.long (q1 &&& (9223372036854775807 : Int64))), .second, .val (.ref rH), .val (.long (((q1 &&& (9223372036854775807 : Int64)) + ((((p3.toUInt32 >>> ((2 : Int32) &&& 31).toUInt32).toInt32) % (3 : Int32)).toInt64)) - (1 : Int64))), .second, .val (.ref b7), .val (.int (if (((q1 &&& (9223372036854775807 : Int64)) + ((((p3.toUInt32 >>> ((2 : Int32) &&& 31).toUInt32).toInt32) % (3 : Int32)).toInt64)) - (1 : Int64)) < (q1 &&& (9223372036854775807 : Int64)) then (1 : Int32) else 0)), .unset] [(.ref rH)])) rfl (hb hby at_75)
      refine own_stW st11 ?_
      show own_EndsW _ _ _ _ _ _ _ T11 (mkF m 78 #[.val (.long q1), .second, .val (.long q2), .second, .val (.int p3), .val (.long (q1 &&& (9223372036854775807 : Int64))), .second, .val (.ref rH), .val (.long (((q1 &&& (9223372036854775807 : Int64)) + ((((p3.toUInt32 >>> ((2 : Int32) &&& 31).toUInt32).toInt32) % (3 : Int32)).toInt64)) - (1 : Int64))), .second, .val (.ref b7), .val (.int (if (((q1 &&& (9223372036854775807 : Int64)) + ((((p3.toUInt32 >>> ((2 : Int32) &&& 31).toUInt32).toInt32) % (3 : Int32)).toInt64)) - (1 : Int64)) < (q1 &&& (9223372036854775807 : Int64)) then (1 : Int32) else 0)), .unset] [(.ref rS), (.ref rH)])
      refine own_stW (fun _ kq => Jvm.RoadKit.acmp (g := (mkF m 78 #[.val (.long q1), .second, .val (.long q2), .second, .val (.int p3), .val (.long (q1 &&& (9223372036854775807 : Int64))), .second, .val (.ref rH), .val (.long (((q1 &&& (9223372036854775807 : Int64)) + ((((p3.toUInt32 >>> ((2 : Int32) &&& 31).toUInt32).toInt32) % (3 : Int32)).toInt64)) - (1 : Int64))), .second, .val (.ref b7), .val (.int (if (((q1 &&& (9223372036854775807 : Int64)) + ((((p3.toUInt32 >>> ((2 : Int32) &&& 31).toUInt32).toInt32) % (3 : Int32)).toInt64)) - (1 : Int64)) < (q1 &&& (9223372036854775807 : Int64)) then (1 : Int32) else 0)), .unset] [(.ref rS), (.ref rH)])) X11 hx rfl rfl rfl (pc0 := 78) (pc' := 87) (same := false) rfl (hb hby at_78) rfl (decide_eq_false fun q => (F_H_exceedable.ne F_S_exceedable (by decide)) (Value.ref.inj q)) (by decide) (by decide) kq) ?_
      show own_EndsW _ _ _ _ _ _ _ T11 (mkF m 87 #[.val (.long q1), .second, .val (.long q2), .second, .val (.int p3), .val (.long (q1 &&& (9223372036854775807 : Int64))), .second, .val (.ref rH), .val (.long (((q1 &&& (9223372036854775807 : Int64)) + ((((p3.toUInt32 >>> ((2 : Int32) &&& 31).toUInt32).toInt32) % (3 : Int32)).toInt64)) - (1 : Int64))), .second, .val (.ref b7), .val (.int (if (((q1 &&& (9223372036854775807 : Int64)) + ((((p3.toUInt32 >>> ((2 : Int32) &&& 31).toUInt32).toInt32) % (3 : Int32)).toInt64)) - (1 : Int64)) < (q1 &&& (9223372036854775807 : Int64)) then (1 : Int32) else 0)), .unset] [])
      refine own_stW (fun _ kq => XS.lload X11.here hx rfl (hb hby at_87) rfl kq) ?_
      show own_EndsW _ _ _ _ _ _ _ T11 (mkF m 89 #[.val (.long q1), .second, .val (.long q2), .second, .val (.int p3), .val (.long (q1 &&& (9223372036854775807 : Int64))), .second, .val (.ref rH), .val (.long (((q1 &&& (9223372036854775807 : Int64)) + ((((p3.toUInt32 >>> ((2 : Int32) &&& 31).toUInt32).toInt32) % (3 : Int32)).toInt64)) - (1 : Int64))), .second, .val (.ref b7), .val (.int (if (((q1 &&& (9223372036854775807 : Int64)) + ((((p3.toUInt32 >>> ((2 : Int32) &&& 31).toUInt32).toInt32) % (3 : Int32)).toInt64)) - (1 : Int64)) < (q1 &&& (9223372036854775807 : Int64)) then (1 : Int32) else 0)), .unset] [(.long (((q1 &&& (9223372036854775807 : Int64)) + ((((p3.toUInt32 >>> ((2 : Int32) &&& 31).toUInt32).toInt32) % (3 : Int32)).toInt64)) - (1 : Int64)))])
      refine own_stW (fun _ kq => XS.lload X11.here hx rfl (hb hby at_89) rfl kq) ?_
      show own_EndsW _ _ _ _ _ _ _ T11 (mkF m 91 #[.val (.long q1), .second, .val (.long q2), .second, .val (.int p3), .val (.long (q1 &&& (9223372036854775807 : Int64))), .second, .val (.ref rH), .val (.long (((q1 &&& (9223372036854775807 : Int64)) + ((((p3.toUInt32 >>> ((2 : Int32) &&& 31).toUInt32).toInt32) % (3 : Int32)).toInt64)) - (1 : Int64))), .second, .val (.ref b7), .val (.int (if (((q1 &&& (9223372036854775807 : Int64)) + ((((p3.toUInt32 >>> ((2 : Int32) &&& 31).toUInt32).toInt32) % (3 : Int32)).toInt64)) - (1 : Int64)) < (q1 &&& (9223372036854775807 : Int64)) then (1 : Int32) else 0)), .unset] [(.long (q1 &&& (9223372036854775807 : Int64))), (.long (((q1 &&& (9223372036854775807 : Int64)) + ((((p3.toUInt32 >>> ((2 : Int32) &&& 31).toUInt32).toInt32) % (3 : Int32)).toInt64)) - (1 : Int64)))])
      refine own_stW (fun _ kq => XS.lcmp X11.here hx rfl (hb hby at_91) rfl kq) ?_
      show own_EndsW _ _ _ _ _ _ _ T11 (mkF m 92 #[.val (.long q1), .second, .val (.long q2), .second, .val (.int p3), .val (.long (q1 &&& (9223372036854775807 : Int64))), .second, .val (.ref rH), .val (.long (((q1 &&& (9223372036854775807 : Int64)) + ((((p3.toUInt32 >>> ((2 : Int32) &&& 31).toUInt32).toInt32) % (3 : Int32)).toInt64)) - (1 : Int64))), .second, .val (.ref b7), .val (.int (if (((q1 &&& (9223372036854775807 : Int64)) + ((((p3.toUInt32 >>> ((2 : Int32) &&& 31).toUInt32).toInt32) % (3 : Int32)).toInt64)) - (1 : Int64)) < (q1 &&& (9223372036854775807 : Int64)) then (1 : Int32) else 0)), .unset] [(.int (lcmpW (((q1 &&& (9223372036854775807 : Int64)) + ((((p3.toUInt32 >>> ((2 : Int32) &&& 31).toUInt32).toInt32) % (3 : Int32)).toInt64)) - (1 : Int64)) (q1 &&& (9223372036854775807 : Int64))))])
      by_cases hc92 : (lcmpW (((q1 &&& (9223372036854775807 : Int64)) + ((((p3.toUInt32 >>> ((2 : Int32) &&& 31).toUInt32).toInt32) % (3 : Int32)).toInt64)) - (1 : Int64)) (q1 &&& (9223372036854775807 : Int64))) < (0 : Int32)
      · skip
        refine own_stW (fun _ kq => XS.ifNo X11.here hx rfl (hb hby at_92) rfl ((if0 _ _).trans (tlt hc92).2.1) kq) ?_
        show own_EndsW _ _ _ _ _ _ _ T11 (mkF m 95 #[.val (.long q1), .second, .val (.long q2), .second, .val (.int p3), .val (.long (q1 &&& (9223372036854775807 : Int64))), .second, .val (.ref rH), .val (.long (((q1 &&& (9223372036854775807 : Int64)) + ((((p3.toUInt32 >>> ((2 : Int32) &&& 31).toUInt32).toInt32) % (3 : Int32)).toInt64)) - (1 : Int64))), .second, .val (.ref b7), .val (.int (if (((q1 &&& (9223372036854775807 : Int64)) + ((((p3.toUInt32 >>> ((2 : Int32) &&& 31).toUInt32).toInt32) % (3 : Int32)).toInt64)) - (1 : Int64)) < (q1 &&& (9223372036854775807 : Int64)) then (1 : Int32) else 0)), .unset] [])
        refine own_stW (fun _ kq => XS.iconst X11.here hx rfl (hb hby at_95) kq) ?_
        show own_EndsW _ _ _ _ _ _ _ T11 (mkF m 96 #[.val (.long q1), .second, .val (.long q2), .second, .val (.int p3), .val (.long (q1 &&& (9223372036854775807 : Int64))), .second, .val (.ref rH), .val (.long (((q1 &&& (9223372036854775807 : Int64)) + ((((p3.toUInt32 >>> ((2 : Int32) &&& 31).toUInt32).toInt32) % (3 : Int32)).toInt64)) - (1 : Int64))), .second, .val (.ref b7), .val (.int (if (((q1 &&& (9223372036854775807 : Int64)) + ((((p3.toUInt32 >>> ((2 : Int32) &&& 31).toUInt32).toInt32) % (3 : Int32)).toInt64)) - (1 : Int64)) < (q1 &&& (9223372036854775807 : Int64)) then (1 : Int32) else 0)), .unset] [(.int (1 : Int32))])
        refine own_stW (fun _ kq => XS.goto X11.here hx rfl (pc0 := 96) (pc' := 100) rfl (hb hby at_96) (by decide) (by decide) kq) ?_
        show own_EndsW _ _ _ _ _ _ _ T11 (mkF m 100 #[.val (.long q1), .second, .val (.long q2), .second, .val (.int p3), .val (.long (q1 &&& (9223372036854775807 : Int64))), .second, .val (.ref rH), .val (.long (((q1 &&& (9223372036854775807 : Int64)) + ((((p3.toUInt32 >>> ((2 : Int32) &&& 31).toUInt32).toInt32) % (3 : Int32)).toInt64)) - (1 : Int64))), .second, .val (.ref b7), .val (.int (if (((q1 &&& (9223372036854775807 : Int64)) + ((((p3.toUInt32 >>> ((2 : Int32) &&& 31).toUInt32).toInt32) % (3 : Int32)).toInt64)) - (1 : Int64)) < (q1 &&& (9223372036854775807 : Int64)) then (1 : Int32) else 0)), .unset] [(.int (1 : Int32))])
        refine own_stW (fun _ kq => XS.istore X11.here hx rfl (hb hby at_100) rfl (l' := #[.val (.long q1), .second, .val (.long q2), .second, .val (.int p3), .val (.long (q1 &&& (9223372036854775807 : Int64))), .second, .val (.ref rH), .val (.long (((q1 &&& (9223372036854775807 : Int64)) + ((((p3.toUInt32 >>> ((2 : Int32) &&& 31).toUInt32).toInt32) % (3 : Int32)).toInt64)) - (1 : Int64))), .second, .val (.ref b7), .val (.int (if (((q1 &&& (9223372036854775807 : Int64)) + ((((p3.toUInt32 >>> ((2 : Int32) &&& 31).toUInt32).toInt32) % (3 : Int32)).toInt64)) - (1 : Int64)) < (q1 &&& (9223372036854775807 : Int64)) then (1 : Int32) else 0)), .val (.int (1 : Int32))]) rfl kq) ?_
        show own_EndsW _ _ _ _ _ _ _ T11 (mkF m 102 #[.val (.long q1), .second, .val (.long q2), .second, .val (.int p3), .val (.long (q1 &&& (9223372036854775807 : Int64))), .second, .val (.ref rH), .val (.long (((q1 &&& (9223372036854775807 : Int64)) + ((((p3.toUInt32 >>> ((2 : Int32) &&& 31).toUInt32).toInt32) % (3 : Int32)).toInt64)) - (1 : Int64))), .second, .val (.ref b7), .val (.int (if (((q1 &&& (9223372036854775807 : Int64)) + ((((p3.toUInt32 >>> ((2 : Int32) &&& 31).toUInt32).toInt32) % (3 : Int32)).toInt64)) - (1 : Int64)) < (q1 &&& (9223372036854775807 : Int64)) then (1 : Int32) else 0)), .val (.int (1 : Int32))] [])
        refine own_stW (fun _ kq => XS.iload X11.here hx rfl (hb hby at_102) rfl kq) ?_
        show own_EndsW _ _ _ _ _ _ _ T11 (mkF m 104 #[.val (.long q1), .second, .val (.long q2), .second, .val (.int p3), .val (.long (q1 &&& (9223372036854775807 : Int64))), .second, .val (.ref rH), .val (.long (((q1 &&& (9223372036854775807 : Int64)) + ((((p3.toUInt32 >>> ((2 : Int32) &&& 31).toUInt32).toInt32) % (3 : Int32)).toInt64)) - (1 : Int64))), .second, .val (.ref b7), .val (.int (if (((q1 &&& (9223372036854775807 : Int64)) + ((((p3.toUInt32 >>> ((2 : Int32) &&& 31).toUInt32).toInt32) % (3 : Int32)).toInt64)) - (1 : Int64)) < (q1 &&& (9223372036854775807 : Int64)) then (1 : Int32) else 0)), .val (.int (1 : Int32))] [(.int (if (((q1 &&& (9223372036854775807 : Int64)) + ((((p3.toUInt32 >>> ((2 : Int32) &&& 31).toUInt32).toInt32) % (3 : Int32)).toInt64)) - (1 : Int64)) < (q1 &&& (9223372036854775807 : Int64)) then (1 : Int32) else 0))])
        refine own_stW (fun _ kq => XS.iload X11.here hx rfl (hb hby at_104) rfl kq) ?_
        show own_EndsW _ _ _ _ _ _ _ T11 (mkF m 106 #[.val (.long q1), .second, .val (.long q2), .second, .val (.int p3), .val (.long (q1 &&& (9223372036854775807 : Int64))), .second, .val (.ref rH), .val (.long (((q1 &&& (9223372036854775807 : Int64)) + ((((p3.toUInt32 >>> ((2 : Int32) &&& 31).toUInt32).toInt32) % (3 : Int32)).toInt64)) - (1 : Int64))), .second, .val (.ref b7), .val (.int (if (((q1 &&& (9223372036854775807 : Int64)) + ((((p3.toUInt32 >>> ((2 : Int32) &&& 31).toUInt32).toInt32) % (3 : Int32)).toInt64)) - (1 : Int64)) < (q1 &&& (9223372036854775807 : Int64)) then (1 : Int32) else 0)), .val (.int (1 : Int32))] [(.int (1 : Int32)), (.int (if (((q1 &&& (9223372036854775807 : Int64)) + ((((p3.toUInt32 >>> ((2 : Int32) &&& 31).toUInt32).toInt32) % (3 : Int32)).toInt64)) - (1 : Int64)) < (q1 &&& (9223372036854775807 : Int64)) then (1 : Int32) else 0))])
        have hm : (if (((q1 &&& (9223372036854775807 : Int64)) + ((((p3.toUInt32 >>> ((2 : Int32) &&& 31).toUInt32).toInt32) % (3 : Int32)).toInt64)) - (1 : Int64)) < (q1 &&& (9223372036854775807 : Int64)) then (1 : Int32) else 0) = (1 : Int32) := if_pos ((lw_lt _ _).mp hc92)
        show own_EndsW _ _ _ _ _ _ _ T11 (mkF m 106 #[.val (.long q1), .second, .val (.long q2), .second, .val (.int p3), .val (.long (q1 &&& (9223372036854775807 : Int64))), .second, .val (.ref rH), .val (.long (((q1 &&& (9223372036854775807 : Int64)) + ((((p3.toUInt32 >>> ((2 : Int32) &&& 31).toUInt32).toInt32) % (3 : Int32)).toInt64)) - (1 : Int64))), .second, .val (.ref b7), .val (.int (if (((q1 &&& (9223372036854775807 : Int64)) + ((((p3.toUInt32 >>> ((2 : Int32) &&& 31).toUInt32).toInt32) % (3 : Int32)).toInt64)) - (1 : Int64)) < (q1 &&& (9223372036854775807 : Int64)) then (1 : Int32) else 0)), .val (.int (1 : Int32))] [(.int (1 : Int32)), (.int (if (((q1 &&& (9223372036854775807 : Int64)) + ((((p3.toUInt32 >>> ((2 : Int32) &&& 31).toUInt32).toInt32) % (3 : Int32)).toInt64)) - (1 : Int64)) < (q1 &&& (9223372036854775807 : Int64)) then (1 : Int32) else 0))])
        refine own_stW (fun _ kq => XS.icmpNo X11.here hx rfl (hb hby at_106) rfl (teq hm).2 kq) ?_
        show own_EndsW _ _ _ _ _ _ _ T11 (mkF m 109 #[.val (.long q1), .second, .val (.long q2), .second, .val (.int p3), .val (.long (q1 &&& (9223372036854775807 : Int64))), .second, .val (.ref rH), .val (.long (((q1 &&& (9223372036854775807 : Int64)) + ((((p3.toUInt32 >>> ((2 : Int32) &&& 31).toUInt32).toInt32) % (3 : Int32)).toInt64)) - (1 : Int64))), .second, .val (.ref b7), .val (.int (if (((q1 &&& (9223372036854775807 : Int64)) + ((((p3.toUInt32 >>> ((2 : Int32) &&& 31).toUInt32).toInt32) % (3 : Int32)).toInt64)) - (1 : Int64)) < (q1 &&& (9223372036854775807 : Int64)) then (1 : Int32) else 0)), .val (.int (1 : Int32))] [])
        refine own_stW (fun _ kq => XS.iconst X11.here hx rfl (hb hby at_109) kq) ?_
        show own_EndsW _ _ _ _ _ _ _ T11 (mkF m 110 #[.val (.long q1), .second, .val (.long q2), .second, .val (.int p3), .val (.long (q1 &&& (9223372036854775807 : Int64))), .second, .val (.ref rH), .val (.long (((q1 &&& (9223372036854775807 : Int64)) + ((((p3.toUInt32 >>> ((2 : Int32) &&& 31).toUInt32).toInt32) % (3 : Int32)).toInt64)) - (1 : Int64))), .second, .val (.ref b7), .val (.int (if (((q1 &&& (9223372036854775807 : Int64)) + ((((p3.toUInt32 >>> ((2 : Int32) &&& 31).toUInt32).toInt32) % (3 : Int32)).toInt64)) - (1 : Int64)) < (q1 &&& (9223372036854775807 : Int64)) then (1 : Int32) else 0)), .val (.int (1 : Int32))] [(.int (1 : Int32))])
        refine own_stW (fun _ kq => XS.goto X11.here hx rfl (pc0 := 110) (pc' := 114) rfl (hb hby at_110) (by decide) (by decide) kq) ?_
        show own_EndsW _ _ _ _ _ _ _ T11 (mkF m 114 #[.val (.long q1), .second, .val (.long q2), .second, .val (.int p3), .val (.long (q1 &&& (9223372036854775807 : Int64))), .second, .val (.ref rH), .val (.long (((q1 &&& (9223372036854775807 : Int64)) + ((((p3.toUInt32 >>> ((2 : Int32) &&& 31).toUInt32).toInt32) % (3 : Int32)).toInt64)) - (1 : Int64))), .second, .val (.ref b7), .val (.int (if (((q1 &&& (9223372036854775807 : Int64)) + ((((p3.toUInt32 >>> ((2 : Int32) &&& 31).toUInt32).toInt32) % (3 : Int32)).toInt64)) - (1 : Int64)) < (q1 &&& (9223372036854775807 : Int64)) then (1 : Int32) else 0)), .val (.int (1 : Int32))] [(.int (1 : Int32))])
        refine own_retNW X11 hS (by rw [e11]; exact hk) hx (t := .boolean) Bd.returns (by simp) (hb hby at_114) hlk (by decide) (by decide) (w := (1 : Int32)) (by decide) ?_
        show Q_rm_law Z q1 q2 p3 rH rS h0 n0 _ T11.heap _
        rw [e11]
        exact ⟨rfl, N10⟩
      · skip
        refine own_stW (fun _ kq => XS.ifYes X11.here hx rfl (pc0 := 92) (pc' := 99) rfl (hb hby at_92) rfl ((if0 _ _).trans (flt hc92).2.1) (by decide) (by decide) kq) ?_
        show own_EndsW _ _ _ _ _ _ _ T11 (mkF m 99 #[.val (.long q1), .second, .val (.long q2), .second, .val (.int p3), .val (.long (q1 &&& (9223372036854775807 : Int64))), .second, .val (.ref rH), .val (.long (((q1 &&& (9223372036854775807 : Int64)) + ((((p3.toUInt32 >>> ((2 : Int32) &&& 31).toUInt32).toInt32) % (3 : Int32)).toInt64)) - (1 : Int64))), .second, .val (.ref b7), .val (.int (if (((q1 &&& (9223372036854775807 : Int64)) + ((((p3.toUInt32 >>> ((2 : Int32) &&& 31).toUInt32).toInt32) % (3 : Int32)).toInt64)) - (1 : Int64)) < (q1 &&& (9223372036854775807 : Int64)) then (1 : Int32) else 0)), .unset] [])
        refine own_stW (fun _ kq => XS.iconst X11.here hx rfl (hb hby at_99) kq) ?_
        show own_EndsW _ _ _ _ _ _ _ T11 (mkF m 100 #[.val (.long q1), .second, .val (.long q2), .second, .val (.int p3), .val (.long (q1 &&& (9223372036854775807 : Int64))), .second, .val (.ref rH), .val (.long (((q1 &&& (9223372036854775807 : Int64)) + ((((p3.toUInt32 >>> ((2 : Int32) &&& 31).toUInt32).toInt32) % (3 : Int32)).toInt64)) - (1 : Int64))), .second, .val (.ref b7), .val (.int (if (((q1 &&& (9223372036854775807 : Int64)) + ((((p3.toUInt32 >>> ((2 : Int32) &&& 31).toUInt32).toInt32) % (3 : Int32)).toInt64)) - (1 : Int64)) < (q1 &&& (9223372036854775807 : Int64)) then (1 : Int32) else 0)), .unset] [(.int (0 : Int32))])
        refine own_stW (fun _ kq => XS.istore X11.here hx rfl (hb hby at_100) rfl (l' := #[.val (.long q1), .second, .val (.long q2), .second, .val (.int p3), .val (.long (q1 &&& (9223372036854775807 : Int64))), .second, .val (.ref rH), .val (.long (((q1 &&& (9223372036854775807 : Int64)) + ((((p3.toUInt32 >>> ((2 : Int32) &&& 31).toUInt32).toInt32) % (3 : Int32)).toInt64)) - (1 : Int64))), .second, .val (.ref b7), .val (.int (if (((q1 &&& (9223372036854775807 : Int64)) + ((((p3.toUInt32 >>> ((2 : Int32) &&& 31).toUInt32).toInt32) % (3 : Int32)).toInt64)) - (1 : Int64)) < (q1 &&& (9223372036854775807 : Int64)) then (1 : Int32) else 0)), .val (.int (0 : Int32))]) rfl kq) ?_
        show own_EndsW _ _ _ _ _ _ _ T11 (mkF m 102 #[.val (.long q1), .second, .val (.long q2), .second, .val (.int p3), .val (.long (q1 &&& (9223372036854775807 : Int64))), .second, .val (.ref rH), .val (.long (((q1 &&& (9223372036854775807 : Int64)) + ((((p3.toUInt32 >>> ((2 : Int32) &&& 31).toUInt32).toInt32) % (3 : Int32)).toInt64)) - (1 : Int64))), .second, .val (.ref b7), .val (.int (if (((q1 &&& (9223372036854775807 : Int64)) + ((((p3.toUInt32 >>> ((2 : Int32) &&& 31).toUInt32).toInt32) % (3 : Int32)).toInt64)) - (1 : Int64)) < (q1 &&& (9223372036854775807 : Int64)) then (1 : Int32) else 0)), .val (.int (0 : Int32))] [])
        refine own_stW (fun _ kq => XS.iload X11.here hx rfl (hb hby at_102) rfl kq) ?_
        show own_EndsW _ _ _ _ _ _ _ T11 (mkF m 104 #[.val (.long q1), .second, .val (.long q2), .second, .val (.int p3), .val (.long (q1 &&& (9223372036854775807 : Int64))), .second, .val (.ref rH), .val (.long (((q1 &&& (9223372036854775807 : Int64)) + ((((p3.toUInt32 >>> ((2 : Int32) &&& 31).toUInt32).toInt32) % (3 : Int32)).toInt64)) - (1 : Int64))), .second, .val (.ref b7), .val (.int (if (((q1 &&& (9223372036854775807 : Int64)) + ((((p3.toUInt32 >>> ((2 : Int32) &&& 31).toUInt32).toInt32) % (3 : Int32)).toInt64)) - (1 : Int64)) < (q1 &&& (9223372036854775807 : Int64)) then (1 : Int32) else 0)), .val (.int (0 : Int32))] [(.int (if (((q1 &&& (9223372036854775807 : Int64)) + ((((p3.toUInt32 >>> ((2 : Int32) &&& 31).toUInt32).toInt32) % (3 : Int32)).toInt64)) - (1 : Int64)) < (q1 &&& (9223372036854775807 : Int64)) then (1 : Int32) else 0))])
        refine own_stW (fun _ kq => XS.iload X11.here hx rfl (hb hby at_104) rfl kq) ?_
        show own_EndsW _ _ _ _ _ _ _ T11 (mkF m 106 #[.val (.long q1), .second, .val (.long q2), .second, .val (.int p3), .val (.long (q1 &&& (9223372036854775807 : Int64))), .second, .val (.ref rH), .val (.long (((q1 &&& (9223372036854775807 : Int64)) + ((((p3.toUInt32 >>> ((2 : Int32) &&& 31).toUInt32).toInt32) % (3 : Int32)).toInt64)) - (1 : Int64))), .second, .val (.ref b7), .val (.int (if (((q1 &&& (9223372036854775807 : Int64)) + ((((p3.toUInt32 >>> ((2 : Int32) &&& 31).toUInt32).toInt32) % (3 : Int32)).toInt64)) - (1 : Int64)) < (q1 &&& (9223372036854775807 : Int64)) then (1 : Int32) else 0)), .val (.int (0 : Int32))] [(.int (0 : Int32)), (.int (if (((q1 &&& (9223372036854775807 : Int64)) + ((((p3.toUInt32 >>> ((2 : Int32) &&& 31).toUInt32).toInt32) % (3 : Int32)).toInt64)) - (1 : Int64)) < (q1 &&& (9223372036854775807 : Int64)) then (1 : Int32) else 0))])
        have hm : (if (((q1 &&& (9223372036854775807 : Int64)) + ((((p3.toUInt32 >>> ((2 : Int32) &&& 31).toUInt32).toInt32) % (3 : Int32)).toInt64)) - (1 : Int64)) < (q1 &&& (9223372036854775807 : Int64)) then (1 : Int32) else 0) = (0 : Int32) := if_neg (fun q => hc92 ((lw_lt _ _).mpr q))
        show own_EndsW _ _ _ _ _ _ _ T11 (mkF m 106 #[.val (.long q1), .second, .val (.long q2), .second, .val (.int p3), .val (.long (q1 &&& (9223372036854775807 : Int64))), .second, .val (.ref rH), .val (.long (((q1 &&& (9223372036854775807 : Int64)) + ((((p3.toUInt32 >>> ((2 : Int32) &&& 31).toUInt32).toInt32) % (3 : Int32)).toInt64)) - (1 : Int64))), .second, .val (.ref b7), .val (.int (if (((q1 &&& (9223372036854775807 : Int64)) + ((((p3.toUInt32 >>> ((2 : Int32) &&& 31).toUInt32).toInt32) % (3 : Int32)).toInt64)) - (1 : Int64)) < (q1 &&& (9223372036854775807 : Int64)) then (1 : Int32) else 0)), .val (.int (0 : Int32))] [(.int (0 : Int32)), (.int (if (((q1 &&& (9223372036854775807 : Int64)) + ((((p3.toUInt32 >>> ((2 : Int32) &&& 31).toUInt32).toInt32) % (3 : Int32)).toInt64)) - (1 : Int64)) < (q1 &&& (9223372036854775807 : Int64)) then (1 : Int32) else 0))])
        refine own_stW (fun _ kq => XS.icmpNo X11.here hx rfl (hb hby at_106) rfl (teq hm).2 kq) ?_
        show own_EndsW _ _ _ _ _ _ _ T11 (mkF m 109 #[.val (.long q1), .second, .val (.long q2), .second, .val (.int p3), .val (.long (q1 &&& (9223372036854775807 : Int64))), .second, .val (.ref rH), .val (.long (((q1 &&& (9223372036854775807 : Int64)) + ((((p3.toUInt32 >>> ((2 : Int32) &&& 31).toUInt32).toInt32) % (3 : Int32)).toInt64)) - (1 : Int64))), .second, .val (.ref b7), .val (.int (if (((q1 &&& (9223372036854775807 : Int64)) + ((((p3.toUInt32 >>> ((2 : Int32) &&& 31).toUInt32).toInt32) % (3 : Int32)).toInt64)) - (1 : Int64)) < (q1 &&& (9223372036854775807 : Int64)) then (1 : Int32) else 0)), .val (.int (0 : Int32))] [])
        refine own_stW (fun _ kq => XS.iconst X11.here hx rfl (hb hby at_109) kq) ?_
        show own_EndsW _ _ _ _ _ _ _ T11 (mkF m 110 #[.val (.long q1), .second, .val (.long q2), .second, .val (.int p3), .val (.long (q1 &&& (9223372036854775807 : Int64))), .second, .val (.ref rH), .val (.long (((q1 &&& (9223372036854775807 : Int64)) + ((((p3.toUInt32 >>> ((2 : Int32) &&& 31).toUInt32).toInt32) % (3 : Int32)).toInt64)) - (1 : Int64))), .second, .val (.ref b7), .val (.int (if (((q1 &&& (9223372036854775807 : Int64)) + ((((p3.toUInt32 >>> ((2 : Int32) &&& 31).toUInt32).toInt32) % (3 : Int32)).toInt64)) - (1 : Int64)) < (q1 &&& (9223372036854775807 : Int64)) then (1 : Int32) else 0)), .val (.int (0 : Int32))] [(.int (1 : Int32))])
        refine own_stW (fun _ kq => XS.goto X11.here hx rfl (pc0 := 110) (pc' := 114) rfl (hb hby at_110) (by decide) (by decide) kq) ?_
        show own_EndsW _ _ _ _ _ _ _ T11 (mkF m 114 #[.val (.long q1), .second, .val (.long q2), .second, .val (.int p3), .val (.long (q1 &&& (9223372036854775807 : Int64))), .second, .val (.ref rH), .val (.long (((q1 &&& (9223372036854775807 : Int64)) + ((((p3.toUInt32 >>> ((2 : Int32) &&& 31).toUInt32).toInt32) % (3 : Int32)).toInt64)) - (1 : Int64))), .second, .val (.ref b7), .val (.int (if (((q1 &&& (9223372036854775807 : Int64)) + ((((p3.toUInt32 >>> ((2 : Int32) &&& 31).toUInt32).toInt32) % (3 : Int32)).toInt64)) - (1 : Int64)) < (q1 &&& (9223372036854775807 : Int64)) then (1 : Int32) else 0)), .val (.int (0 : Int32))] [(.int (1 : Int32))])
        refine own_retNW X11 hS (by rw [e11]; exact hk) hx (t := .boolean) Bd.returns (by simp) (hb hby at_114) hlk (by decide) (by decide) (w := (1 : Int32)) (by decide) ?_
        show Q_rm_law Z q1 q2 p3 rH rS h0 n0 _ T11.heap _
        rw [e11]
        exact ⟨rfl, N10⟩
  · skip
    refine own_stW (fun _ kq => XS.ifNo X0.here hx rfl (hb hby at_11) rfl ((if0 _ _).trans (feq hc11).1) kq) ?_
    show own_EndsW _ _ _ _ _ _ _ s₁ (mkF m 14 #[.val (.long q1), .second, .val (.long q2), .second, .val (.int p3), .val (.long (q1 &&& (9223372036854775807 : Int64))), .second, .unset, .unset, .unset, .unset, .unset, .unset] [])
    obtain ⟨T12, X12, e12, st12⟩ := getS2 X0 hx hZ hown (host := "") (Or.inl (hw _ (List.mem_of_getElem? (i := 50) rfl))) Via.refl e0 (S_S.ext O0.2) (g := (mkF m 14 #[.val (.long q1), .second, .val (.long q2), .second, .val (.int p3), .val (.long (q1 &&& (9223372036854775807 : Int64))), .second, .unset, .unset, .unset, .unset, .unset, .unset] [])) rfl (hb hby at_14)
    refine own_stW st12 ?_
    show own_EndsW _ _ _ _ _ _ _ T12 (mkF m 17 #[.val (.long q1), .second, .val (.long q2), .second, .val (.int p3), .val (.long (q1 &&& (9223372036854775807 : Int64))), .second, .unset, .unset, .unset, .unset, .unset, .unset] [(.ref rS)])
    refine own_stW (fun _ kq => XS.goto X12.here hx rfl (pc0 := 17) (pc' := 23) rfl (hb hby at_17) (by decide) (by decide) kq) ?_
    show own_EndsW _ _ _ _ _ _ _ T12 (mkF m 23 #[.val (.long q1), .second, .val (.long q2), .second, .val (.int p3), .val (.long (q1 &&& (9223372036854775807 : Int64))), .second, .unset, .unset, .unset, .unset, .unset, .unset] [(.ref rS)])
    refine own_stW (fun _ kq => XS.astore X12.here hx rfl (hb hby at_23) rfl rfl (l' := #[.val (.long q1), .second, .val (.long q2), .second, .val (.int p3), .val (.long (q1 &&& (9223372036854775807 : Int64))), .second, .val (.ref rS), .unset, .unset, .unset, .unset, .unset]) rfl kq) ?_
    show own_EndsW _ _ _ _ _ _ _ T12 (mkF m 25 #[.val (.long q1), .second, .val (.long q2), .second, .val (.int p3), .val (.long (q1 &&& (9223372036854775807 : Int64))), .second, .val (.ref rS), .unset, .unset, .unset, .unset, .unset] [])
    refine own_stW (fun _ kq => XS.lloadN X12.here hx rfl (hb hby at_25) rfl kq) ?_
    show own_EndsW _ _ _ _ _ _ _ T12 (mkF m 26 #[.val (.long q1), .second, .val (.long q2), .second, .val (.int p3), .val (.long (q1 &&& (9223372036854775807 : Int64))), .second, .val (.ref rS), .unset, .unset, .unset, .unset, .unset] [(.long q2)])
    refine own_stW (fun _ kq => XS.lstore X12.here hx rfl (hb hby at_26) rfl (l' := #[.val (.long q1), .second, .val (.long q2), .second, .val (.int p3), .val (.long (q1 &&& (9223372036854775807 : Int64))), .second, .val (.ref rS), .val (.long q2), .second, .unset, .unset, .unset]) rfl kq) ?_
    show own_EndsW _ _ _ _ _ _ _ T12 (mkF m 28 #[.val (.long q1), .second, .val (.long q2), .second, .val (.int p3), .val (.long (q1 &&& (9223372036854775807 : Int64))), .second, .val (.ref rS), .val (.long q2), .second, .unset, .unset, .unset] [])
    refine own_stW (fun _ kq => XS.iload X12.here hx rfl (hb hby at_28) rfl kq) ?_
    show own_EndsW _ _ _ _ _ _ _ T12 (mkF m 30 #[.val (.long q1), .second, .val (.long q2), .second, .val (.int p3), .val (.long (q1 &&& (9223372036854775807 : Int64))), .second, .val (.ref rS), .val (.long q2), .second, .unset, .unset, .unset] [(.int p3)])
    refine own_stW (fun _ kq => XS.iconst X12.here hx rfl (hb hby at_30) kq) ?_
    show own_EndsW _ _ _ _ _ _ _ T12 (mkF m 31 #[.val (.long q1), .second, .val (.long q2), .second, .val (.int p3), .val (.long (q1 &&& (9223372036854775807 : Int64))), .second, .val (.ref rS), .val (.long q2), .second, .unset, .unset, .unset] [(.int (2 : Int32)), (.int p3)])
    refine own_stW (fun _ kq => XS.iand X12.here hx rfl (hb hby at_31) rfl kq) ?_
    show own_EndsW _ _ _ _ _ _ _ T12 (mkF m 32 #[.val (.long q1), .second, .val (.long q2), .second, .val (.int p3), .val (.long (q1 &&& (9223372036854775807 : Int64))), .second, .val (.ref rS), .val (.long q2), .second, .unset, .unset, .unset] [(.int (p3 &&& (2 : Int32)))])
    by_cases hc32 : (p3 &&& (2 : Int32)) = (0 : Int32)
    · skip
      refine own_stW (fun _ kq => XS.ifYes X12.here hx rfl (pc0 := 32) (pc' := 49) rfl (hb hby at_32) rfl ((if0 _ _).trans (teq hc32).1) (by decide) (by decide) kq) ?_
      show own_EndsW _ _ _ _ _ _ _ T12 (mkF m 49 #[.val (.long q1), .second, .val (.long q2), .second, .val (.int p3), .val (.long (q1 &&& (9223372036854775807 : Int64))), .second, .val (.ref rS), .val (.long q2), .second, .unset, .unset, .unset] [])
      obtain ⟨T13, h13, X13, e13, E13, A13, D13, -, st13⟩ := newO X12 hx hZ hown (hw _ (List.mem_of_getElem? (i := 4) rfl)) (hw _ (List.mem_of_getElem? (i := 5) rfl)) (hw _ (List.mem_of_getElem? (i := 6) rfl)) e12 (g := (mkF m 49 #[.val (.long q1), .second, .val (.long q2), .second, .val (.int p3), .val (.long (q1 &&& (9223372036854775807 : Int64))), .second, .val (.ref rS), .val (.long q2), .second, .unset, .unset, .unset] [])) rfl (hb hby at_49) (by decide) (by decide)
      obtain ⟨b13, g13⟩ : ∃ z, z = h0.size := ⟨_, rfl⟩
      rw [← g13] at A13 D13 st13
      have g_b13 : n0 ≤ b13 := Nat.le_trans (O0.1 ▸ O0.2.1) (Nat.le_of_eq g13.symm)
      have sz_b13 : h0.size ≤ b13 := Nat.le_trans (Keep.refl h0 []).1 (Nat.le_of_eq g13.symm)
      have O13 := O0.ext E13
      have hk := Nat.le_trans hk E13.1
      refine own_stW st13 ?_
      have F13_name : Fld Z h13 b13 "com/example/seatledger/seatledger/model/Volume" "name" "Ljava/lang/String;" .null := D13 (Or.inr (hw _ (List.mem_of_getElem? (i := 33) rfl))) (ty := (.object "java/lang/String")) (by decide)
      have F13_capacity : Fld Z h13 b13 "com/example/seatledger/seatledger/model/Volume" "capacity" "J" (.long (0 : Int64)) := D13 (Or.inr (hw _ (List.mem_of_getElem? (i := 35) rfl))) (ty := .long) (by decide)
      have F13_policy : Fld Z h13 b13 "com/example/seatledger/seatledger/model/Volume" "policy" "Lcom/example/seatledger/seatledger/model/Policy;" .null := D13 (Or.inr (hw _ (List.mem_of_getElem? (i := 37) rfl))) (ty := (.object "com/example/seatledger/seatledger/model/Policy")) (by decide)
      show own_EndsW _ _ _ _ _ _ _ T13 (mkF m 52 #[.val (.long q1), .second, .val (.long q2), .second, .val (.int p3), .val (.long (q1 &&& (9223372036854775807 : Int64))), .second, .val (.ref rS), .val (.long q2), .second, .unset, .unset, .unset] [(.ref b13)])
      refine own_stW (fun _ kq => XS.dup X13.here hx rfl (hb hby at_52) rfl rfl kq) ?_
      show own_EndsW _ _ _ _ _ _ _ T13 (mkF m 53 #[.val (.long q1), .second, .val (.long q2), .second, .val (.int p3), .val (.long (q1 &&& (9223372036854775807 : Int64))), .second, .val (.ref rS), .val (.long q2), .second, .unset, .unset, .unset] [(.ref b13), (.ref b13)])
      obtain ⟨sl14, T14, h14, kk14, X14, e14, E14, hS, hk', hZ, hown, st14⟩ := ldcS X13 hx hZ hown (hw _ (List.mem_of_getElem? (i := 7) rfl)) (own_wS hw) e13 hS hk (g := (mkF m 53 #[.val (.long q1), .second, .val (.long q2), .second, .val (.int p3), .val (.long (q1 &&& (9223372036854775807 : Int64))), .second, .val (.ref rS), .val (.long q2), .second, .unset, .unset, .unset] [(.ref b13), (.ref b13)])) rfl (hb hby at_53) (n := 4) (by decide +kernel) (by decide) (by decide) (by decide)
      have O14 := O13.ext E14
      have hk := Nat.le_trans hk E14.1
      have hk := hk'
      refine own_stW st14 ?_
      show own_EndsW _ _ _ _ _ _ _ T14 (mkF m 55 #[.val (.long q1), .second, .val (.long q2), .second, .val (.int p3), .val (.long (q1 &&& (9223372036854775807 : Int64))), .second, .val (.ref rS), .val (.long q2), .second, .unset, .unset, .unset] [(.ref sl14), (.ref b13), (.ref b13)])
      refine own_stW (fun _ kq => XS.lload X14.here hx rfl (hb hby at_55) rfl kq) ?_
      show own_EndsW _ _ _ _ _ _ _ T14 (mkF m 57 #[.val (.long q1), .second, .val (.long q2), .second, .val (.int p3), .val (.long (q1 &&& (9223372036854775807 : Int64))), .second, .val (.ref rS), .val (.long q2), .second, .unset, .unset, .unset] [(.long (q1 &&& (9223372036854775807 : Int64))), (.ref sl14), (.ref b13), (.ref b13)])
      refine own_stW (fun _ kq => XS.aload X14.here hx rfl (hb hby at_57) rfl rfl kq) ?_
      show own_EndsW _ _ _ _ _ _ _ T14 (mkF m 59 #[.val (.long q1), .second, .val (.long q2), .second, .val (.int p3), .val (.long (q1 &&& (9223372036854775807 : Int64))), .second, .val (.ref rS), .val (.long q2), .second, .unset, .unset, .unset] [(.ref rS), (.long (q1 &&& (9223372036854775807 : Int64))), (.ref sl14), (.ref b13), (.ref b13)])
      obtain ⟨_, _, ⟨T15, L15, k15, n15⟩, -, X15, hS2, hgr, ⟨Lc15, hQ15, l15, y15, z15⟩, st15⟩ := X14.specialBackS hx (y := (⟨"com/example/seatledger/seatledger/model/Volume", "<init>", "(Ljava/lang/String;JLcom/example/seatledger/seatledger/model/Policy;)V"⟩ : MethodName)) rfl hown (mvT hZ (hw _ (List.mem_of_getElem? (i := 15) rfl))) (mvT hZ (hw _ (List.mem_of_getElem? (i := 16) rfl))) (mvT hZ (hw _ (List.mem_of_getElem? (i := 17) rfl))) (by decide) (backOfS (W := 1) (rm_init l Z a0 hw [] b13 sl14 (q1 &&& (9223372036854775807 : Int64)) rS h14 n0 O14 (A13.ext E14) (F13_name.ext E14) (F13_capacity.ext E14) (F13_policy.ext E14) g_b13 (own_cap q1)) hZ (hw _ (List.mem_of_getElem? (i := 17) rfl)) (hw _ (List.mem_of_getElem? (i := 6) rfl)) (by decide) (by decide)) (g := (mkF m 59 #[.val (.long q1), .second, .val (.long q2), .second, .val (.int p3), .val (.long (q1 &&& (9223372036854775807 : Int64))), .second, .val (.ref rS), .val (.long q2), .second, .unset, .unset, .unset] [(.ref rS), (.long (q1 &&& (9223372036854775807 : Int64))), (.ref sl14), (.ref b13), (.ref b13)])) rfl (by rw [hml]; rfl) (Steps.refl _) (a := b13) (argsL := [(.ref sl14), (.long (q1 &&& (9223372036854775807 : Int64))), (.ref rS)]) (rest := [(.ref b13)]) (lenOf pd_0 rfl) rfl (by show 2 * 0 + _ ≤ _; exact Nat.le_of_eq rfl) (hb hby at_59) (fun _ _ => ⟨rfl, e14, (by decide : 3 + 4 ≤ _), (by decide : 11 + 48 ≤ _)⟩)
      dsimp only [Pt.U, Pt.locs, Pt.cells, Pt.slots] at X15 l15 y15 z15 st15 hQ15 hS2 hgr
      subst l15 y15 z15
      have X15 : Stand p l e room_1 (s.setVm T15.vm) m #[(.long q1), (.long q2), (.int p3)] below meth c T15 _ _ _ := X15
      have hS := foldS hS (show _ ≤ T14.heap.size by rw [e14]; exact hk) hS2 hgr
      have hk := Nat.le_refl T15.heap.size
      have hZ : Z.Warmed39 (s.setVm T15.vm).vm := State.Warmed39.trans hZ hS2.1
      have hown : (s.setVm T15.vm).vm.findClass "com/example/seatledger/seatledger/model/VolumeAdmitsAnotherPinLaw" = some m.cls := by rw [show (s.setVm T15.vm).vm = T15.vm from rfl, hS2.1.alike.findClass]; exact hown
      obtain ⟨rfl, N15q, K15, O15, f15_0, f15_1, f15_2⟩ := hQ15
      have N15 := Fr.app N0 N15q
      refine own_trW st15 ?_
      show own_EndsW _ _ _ _ _ _ _ T15 (mkF m 62 #[.val (.long q1), .second, .val (.long q2), .second, .val (.int p3), .val (.long (q1 &&& (9223372036854775807 : Int64))), .second, .val (.ref rS), .val (.long q2), .second, .unset, .unset, .unset] [(.ref b13)])
      refine own_stW (fun _ kq => XS.astore X15.here hx rfl (hb hby at_62) rfl rfl (l' := #[.val (.long q1), .second, .val (.long q2), .second, .val (.int p3), .val (.long (q1 &&& (9223372036854775807 : Int64))), .second, .val (.ref rS), .val (.long q2), .second, .val (.ref b13), .unset, .unset]) rfl kq) ?_
      show own_EndsW _ _ _ _ _ _ _ T15 (mkF m 64 #[.val (.long q1), .second, .val (.long q2), .second, .val (.int p3), .val (.long (q1 &&& (9223372036854775807 : Int64))), .second, .val (.ref rS), .val (.long q2), .second, .val (.ref b13), .unset, .unset] [])
      refine own_stW (fun _ kq => XS.aload X15.here hx rfl (hb hby at_64) rfl rfl kq) ?_
      show own_EndsW _ _ _ _ _ _ _ T15 (mkF m 66 #[.val (.long q1), .second, .val (.long q2), .second, .val (.int p3), .val (.long (q1 &&& (9223372036854775807 : Int64))), .second, .val (.ref rS), .val (.long q2), .second, .val (.ref b13), .unset, .unset] [(.ref b13)])
      refine own_stW (fun _ kq => XS.lload X15.here hx rfl (hb hby at_66) rfl kq) ?_
      show own_EndsW _ _ _ _ _ _ _ T15 (mkF m 68 #[.val (.long q1), .second, .val (.long q2), .second, .val (.int p3), .val (.long (q1 &&& (9223372036854775807 : Int64))), .second, .val (.ref rS), .val (.long q2), .second, .val (.ref b13), .unset, .unset] [(.long q2), (.ref b13)])
      obtain ⟨cq16, kq16, q16a, q16b, q16c⟩ := isOf hZ rfl f15_0
      obtain ⟨_, _, ⟨T16, L16, k16, n16⟩, -, X16, ⟨Lc16, hQ16, l16, y16, z16⟩, st16⟩ := X15.virtualBack hx (y := (⟨"com/example/seatledger/seatledger/model/Volume", "admitsAnother", "(J)Z"⟩ : MethodName)) (z := (⟨"com/example/seatledger/seatledger/model/Volume", "admitsAnother", "(J)Z"⟩ : MethodName)) hown (mvT hZ (hw _ (List.mem_of_getElem? (i := 38) rfl))) (mvT hZ (hw _ (List.mem_of_getElem? (i := 39) rfl))) (notFace_of_selects (args := #[]) (mvT hZ (hw _ (List.mem_of_getElem? (i := 41) rfl)))) (mvT hZ (hw _ (List.mem_of_getElem? (i := 41) rfl))) (mvT hZ (hw _ (List.mem_of_getElem? (i := 40) rfl))) (by decide) (backOf (W := 0) (rm_admS l Z a0 hw [] b13 q2 (q1 &&& (9223372036854775807 : Int64)) rH rS T15.heap n0 O15 f15_1 f15_2 G) hZ (hw _ (List.mem_of_getElem? (i := 42) rfl)) (hw _ (List.mem_of_getElem? (i := 6) rfl)) (by decide) (by decide)) q16a q16c (g := (mkF m 68 #[.val (.long q1), .second, .val (.long q2), .second, .val (.int p3), .val (.long (q1 &&& (9223372036854775807 : Int64))), .second, .val (.ref rS), .val (.long q2), .second, .val (.ref b13), .unset, .unset] [(.long q2), (.ref b13)])) rfl (by rw [hml]; rfl) (Steps.refl _) (argsL := [(.long q2)]) (rest := []) (lenOf pd_3 rfl) rfl (by show 2 * 0 + _ ≤ _; exact Nat.le_of_eq rfl) (hb hby at_68) (fun _ _ => ⟨rfl, rfl, (by decide : 7 + 0 ≤ _), (by decide : 59 + 0 ≤ _)⟩)
      dsimp only [Pt.U, Pt.locs, Pt.cells, Pt.slots] at X16 l16 y16 z16 st16 hQ16
      subst l16 y16 z16
      obtain ⟨rfl, N16q, e16⟩ := hQ16
      have N16 := Fr.app N15 N16q
      refine own_trW st16 ?_
      show own_EndsW _ _ _ _ _ _ _ T16 (mkF m 71 #[.val (.long q1), .second, .val (.long q2), .second, .val (.int p3), .val (.long (q1 &&& (9223372036854775807 : Int64))), .second, .val (.ref rS), .val (.long q2), .second, .val (.ref b13), .unset, .unset] [(.int (1 : Int32))])
      refine own_stW (fun _ kq => XS.istore X16.here hx rfl (hb hby at_71) rfl (l' := #[.val (.long q1), .second, .val (.long q2), .second, .val (.int p3), .val (.long (q1 &&& (9223372036854775807 : Int64))), .second, .val (.ref rS), .val (.long q2), .second, .val (.ref b13), .val (.int (1 : Int32)), .unset]) rfl kq) ?_
      show own_EndsW _ _ _ _ _ _ _ T16 (mkF m 73 #[.val (.long q1), .second, .val (.long q2), .second, .val (.int p3), .val (.long (q1 &&& (9223372036854775807 : Int64))), .second, .val (.ref rS), .val (.long q2), .second, .val (.ref b13), .val (.int (1 : Int32)), .unset] [])
      refine own_stW (fun _ kq => XS.aload X16.here hx rfl (hb hby at_73) rfl rfl kq) ?_
      show own_EndsW _ _ _ _ _ _ _ T16 (mkF m 75 #[.val (.long q1), .second, .val (.long q2), .second, .val (.int p3), .val (.long (q1 &&& (9223372036854775807 : Int64))), .second, .val (.ref rS), .val (.long q2), .second, .val (.ref b13), .val (.int (1 : Int32)), .unset] [(.ref rS)])
      obtain ⟨T17, X17, e17, st17⟩ := getS2 X16 hx hZ hown (host := "") (Or.inl (hw _ (List.mem_of_getElem? (i := 50) rfl))) Via.refl e16 (S_S.ext O15.2) (g := (mkF m 75 #[.val (.long q1), .second, .val (.long q2), .second, .val (.int p3), .val (.long (q1 &&& (9223372036854775807 : Int64))), .second, .val (.ref rS), .val (.long q2), .second, .val (.ref b13), .val (.int (1 : Int32)), .unset] [(.ref rS)])) rfl (hb hby at_75)
      refine own_stW st17 ?_
      show own_EndsW _ _ _ _ _ _ _ T17 (mkF m 78 #[.val (.long q1), .second, .val (.long q2), .second, .val (.int p3), .val (.long (q1 &&& (9223372036854775807 : Int64))), .second, .val (.ref rS), .val (.long q2), .second, .val (.ref b13), .val (.int (1 : Int32)), .unset] [(.ref rS), (.ref rS)])
      refine own_stW (fun _ kq => Jvm.RoadKit.acmp (g := (mkF m 78 #[.val (.long q1), .second, .val (.long q2), .second, .val (.int p3), .val (.long (q1 &&& (9223372036854775807 : Int64))), .second, .val (.ref rS), .val (.long q2), .second, .val (.ref b13), .val (.int (1 : Int32)), .unset] [(.ref rS), (.ref rS)])) X17 hx rfl rfl rfl (pc0 := 78) (pc' := 81) (same := true) rfl (hb hby at_78) rfl (decide_eq_true rfl) (by decide) (by decide) kq) ?_
      show own_EndsW _ _ _ _ _ _ _ T17 (mkF m 81 #[.val (.long q1), .second, .val (.long q2), .second, .val (.int p3), .val (.long (q1 &&& (9223372036854775807 : Int64))), .second, .val (.ref rS), .val (.long q2), .second, .val (.ref b13), .val (.int (1 : Int32)), .unset] [])
      refine own_stW (fun _ kq => XS.iconst X17.here hx rfl (hb hby at_81) kq) ?_
      show own_EndsW _ _ _ _ _ _ _ T17 (mkF m 82 #[.val (.long q1), .second, .val (.long q2), .second, .val (.int p3), .val (.long (q1 &&& (9223372036854775807 : Int64))), .second, .val (.ref rS), .val (.long q2), .second, .val (.ref b13), .val (.int (1 : Int32)), .unset] [(.int (1 : Int32))])
      refine own_stW (fun _ kq => XS.istore X17.here hx rfl (hb hby at_82) rfl (l' := #[.val (.long q1), .second, .val (.long q2), .second, .val (.int p3), .val (.long (q1 &&& (9223372036854775807 : Int64))), .second, .val (.ref rS), .val (.long q2), .second, .val (.ref b13), .val (.int (1 : Int32)), .val (.int (1 : Int32))]) rfl kq) ?_
      show own_EndsW _ _ _ _ _ _ _ T17 (mkF m 84 #[.val (.long q1), .second, .val (.long q2), .second, .val (.int p3), .val (.long (q1 &&& (9223372036854775807 : Int64))), .second, .val (.ref rS), .val (.long q2), .second, .val (.ref b13), .val (.int (1 : Int32)), .val (.int (1 : Int32))] [])
      refine own_stW (fun _ kq => XS.goto X17.here hx rfl (pc0 := 84) (pc' := 102) rfl (hb hby at_84) (by decide) (by decide) kq) ?_
      show own_EndsW _ _ _ _ _ _ _ T17 (mkF m 102 #[.val (.long q1), .second, .val (.long q2), .second, .val (.int p3), .val (.long (q1 &&& (9223372036854775807 : Int64))), .second, .val (.ref rS), .val (.long q2), .second, .val (.ref b13), .val (.int (1 : Int32)), .val (.int (1 : Int32))] [])
      refine own_stW (fun _ kq => XS.iload X17.here hx rfl (hb hby at_102) rfl kq) ?_
      show own_EndsW _ _ _ _ _ _ _ T17 (mkF m 104 #[.val (.long q1), .second, .val (.long q2), .second, .val (.int p3), .val (.long (q1 &&& (9223372036854775807 : Int64))), .second, .val (.ref rS), .val (.long q2), .second, .val (.ref b13), .val (.int (1 : Int32)), .val (.int (1 : Int32))] [(.int (1 : Int32))])
      refine own_stW (fun _ kq => XS.iload X17.here hx rfl (hb hby at_104) rfl kq) ?_
      show own_EndsW _ _ _ _ _ _ _ T17 (mkF m 106 #[.val (.long q1), .second, .val (.long q2), .second, .val (.int p3), .val (.long (q1 &&& (9223372036854775807 : Int64))), .second, .val (.ref rS), .val (.long q2), .second, .val (.ref b13), .val (.int (1 : Int32)), .val (.int (1 : Int32))] [(.int (1 : Int32)), (.int (1 : Int32))])
      show own_EndsW _ _ _ _ _ _ _ T17 (mkF m 106 #[.val (.long q1), .second, .val (.long q2), .second, .val (.int p3), .val (.long (q1 &&& (9223372036854775807 : Int64))), .second, .val (.ref rS), .val (.long q2), .second, .val (.ref b13), .val (.int (1 : Int32)), .val (.int (1 : Int32))] [(.int (1 : Int32)), (.int (1 : Int32))])
      refine own_stW (fun _ kq => XS.icmpNo X17.here hx rfl (hb hby at_106) rfl (teq (by decide : (1 : Int32) = (1 : Int32))).2 kq) ?_
      show own_EndsW _ _ _ _ _ _ _ T17 (mkF m 109 #[.val (.long q1), .second, .val (.long q2), .second, .val (.int p3), .val (.long (q1 &&& (9223372036854775807 : Int64))), .second, .val (.ref rS), .val (.long q2), .second, .val (.ref b13), .val (.int (1 : Int32)), .val (.int (1 : Int32))] [])
      refine own_stW (fun _ kq => XS.iconst X17.here hx rfl (hb hby at_109) kq) ?_
      show own_EndsW _ _ _ _ _ _ _ T17 (mkF m 110 #[.val (.long q1), .second, .val (.long q2), .second, .val (.int p3), .val (.long (q1 &&& (9223372036854775807 : Int64))), .second, .val (.ref rS), .val (.long q2), .second, .val (.ref b13), .val (.int (1 : Int32)), .val (.int (1 : Int32))] [(.int (1 : Int32))])
      refine own_stW (fun _ kq => XS.goto X17.here hx rfl (pc0 := 110) (pc' := 114) rfl (hb hby at_110) (by decide) (by decide) kq) ?_
      show own_EndsW _ _ _ _ _ _ _ T17 (mkF m 114 #[.val (.long q1), .second, .val (.long q2), .second, .val (.int p3), .val (.long (q1 &&& (9223372036854775807 : Int64))), .second, .val (.ref rS), .val (.long q2), .second, .val (.ref b13), .val (.int (1 : Int32)), .val (.int (1 : Int32))] [(.int (1 : Int32))])
      refine own_retNW X17 hS (by rw [e17]; exact hk) hx (t := .boolean) Bd.returns (by simp) (hb hby at_114) hlk (by decide) (by decide) (w := (1 : Int32)) (by decide) ?_
      show Q_rm_law Z q1 q2 p3 rH rS h0 n0 _ T17.heap _
      rw [e17]
      exact ⟨rfl, N16⟩
    · skip
      refine own_stW (fun _ kq => XS.ifNo X12.here hx rfl (hb hby at_32) rfl ((if0 _ _).trans (feq hc32).1) kq) ?_
      show own_EndsW _ _ _ _ _ _ _ T12 (mkF m 35 #[.val (.long q1), .second, .val (.long q2), .second, .val (.int p3), .val (.long (q1 &&& (9223372036854775807 : Int64))), .second, .val (.ref rS), .val (.long q2), .second, .unset, .unset, .unset] [])
      refine own_stW (fun _ kq => XS.lload X12.here hx rfl (hb hby at_35) rfl kq) ?_
      show own_EndsW _ _ _ _ _ _ _ T12 (mkF m 37 #[.val (.long q1), .second, .val (.long q2), .second, .val (.int p3), .val (.long (q1 &&& (9223372036854775807 : Int64))), .second, .val (.ref rS), .val (.long q2), .second, .unset, .unset, .unset] [(.long (q1 &&& (9223372036854775807 : Int64)))])
      refine own_stW (fun _ kq => XS.iload X12.here hx rfl (hb hby at_37) rfl kq) ?_
      show own_EndsW _ _ _ _ _ _ _ T12 (mkF m 39 #[.val (.long q1), .second, .val (.long q2), .second, .val (.int p3), .val (.long (q1 &&& (9223372036854775807 : Int64))), .second, .val (.ref rS), .val (.long q2), .second, .unset, .unset, .unset] [(.int p3), (.long (q1 &&& (9223372036854775807 : Int64)))])
      refine own_stW (fun _ kq => XS.iconst X12.here hx rfl (hb hby at_39) kq) ?_
      show own_EndsW _ _ _ _ _ _ _ T12 (mkF m 40 #[.val (.long q1), .second, .val (.long q2), .second, .val (.int p3), .val (.long (q1 &&& (9223372036854775807 : Int64))), .second, .val (.ref rS), .val (.long q2), .second, .unset, .unset, .unset] [(.int (2 : Int32)), (.int p3), (.long (q1 &&& (9223372036854775807 : Int64)))])
      refine own_stW (fun _ kq => XS.iushr X12.here hx rfl (hb hby at_40) rfl kq) ?_
      show own_EndsW _ _ _ _ _ _ _ T12 (mkF m 41 #[.val (.long q1), .second, .val (.long q2), .second, .val (.int p3), .val (.long (q1 &&& (9223372036854775807 : Int64))), .second, .val (.ref rS), .val (.long q2), .second, .unset, .unset, .unset] [(.int ((p3.toUInt32 >>> ((2 : Int32) &&& 31).toUInt32).toInt32)), (.long (q1 &&& (9223372036854775807 : Int64)))])
      refine own_stW (fun _ kq => XS.iconst X12.here hx rfl (hb hby at_41) kq) ?_
      show own_EndsW _ _ _ _ _ _ _ T12 (mkF m 42 #[.val (.long q1), .second, .val (.long q2), .second, .val (.int p3), .val (.long (q1 &&& (9223372036854775807 : Int64))), .second, .val (.ref rS), .val (.long q2), .second, .unset, .unset, .unset] [(.int (3 : Int32)), (.int ((p3.toUInt32 >>> ((2 : Int32) &&& 31).toUInt32).toInt32)), (.long (q1 &&& (9223372036854775807 : Int64)))])
      refine own_stW (fun _ kq => iremM (g := (mkF m 42 #[.val (.long q1), .second, .val (.long q2), .second, .val (.int p3), .val (.long (q1 &&& (9223372036854775807 : Int64))), .second, .val (.ref rS), .val (.long q2), .second, .unset, .unset, .unset] [(.int (3 : Int32)), (.int ((p3.toUInt32 >>> ((2 : Int32) &&& 31).toUInt32).toInt32)), (.long (q1 &&& (9223372036854775807 : Int64)))])) X12 hx rfl (hb hby at_42) rfl (by decide) kq) ?_
      show own_EndsW _ _ _ _ _ _ _ T12 (mkF m 43 #[.val (.long q1), .second, .val (.long q2), .second, .val (.int p3), .val (.long (q1 &&& (9223372036854775807 : Int64))), .second, .val (.ref rS), .val (.long q2), .second, .unset, .unset, .unset] [(.int (((p3.toUInt32 >>> ((2 : Int32) &&& 31).toUInt32).toInt32) % (3 : Int32))), (.long (q1 &&& (9223372036854775807 : Int64)))])
      refine own_stW (fun _ kq => XS.i2l X12.here hx rfl (hb hby at_43) rfl kq) ?_
      show own_EndsW _ _ _ _ _ _ _ T12 (mkF m 44 #[.val (.long q1), .second, .val (.long q2), .second, .val (.int p3), .val (.long (q1 &&& (9223372036854775807 : Int64))), .second, .val (.ref rS), .val (.long q2), .second, .unset, .unset, .unset] [(.long ((((p3.toUInt32 >>> ((2 : Int32) &&& 31).toUInt32).toInt32) % (3 : Int32)).toInt64)), (.long (q1 &&& (9223372036854775807 : Int64)))])
      refine own_stW (fun _ kq => XS.ladd X12.here hx rfl (hb hby at_44) rfl kq) ?_
      show own_EndsW _ _ _ _ _ _ _ T12 (mkF m 45 #[.val (.long q1), .second, .val (.long q2), .second, .val (.int p3), .val (.long (q1 &&& (9223372036854775807 : Int64))), .second, .val (.ref rS), .val (.long q2), .second, .unset, .unset, .unset] [(.long ((q1 &&& (9223372036854775807 : Int64)) + ((((p3.toUInt32 >>> ((2 : Int32) &&& 31).toUInt32).toInt32) % (3 : Int32)).toInt64)))])
      refine own_stW (fun _ kq => XS.lconst X12.here hx rfl (hb hby at_45) kq) ?_
      show own_EndsW _ _ _ _ _ _ _ T12 (mkF m 46 #[.val (.long q1), .second, .val (.long q2), .second, .val (.int p3), .val (.long (q1 &&& (9223372036854775807 : Int64))), .second, .val (.ref rS), .val (.long q2), .second, .unset, .unset, .unset] [(.long (1 : Int64)), (.long ((q1 &&& (9223372036854775807 : Int64)) + ((((p3.toUInt32 >>> ((2 : Int32) &&& 31).toUInt32).toInt32) % (3 : Int32)).toInt64)))])
      refine own_stW (fun _ kq => XS.lsub X12.here hx rfl (hb hby at_46) rfl kq) ?_
      show own_EndsW _ _ _ _ _ _ _ T12 (mkF m 47 #[.val (.long q1), .second, .val (.long q2), .second, .val (.int p3), .val (.long (q1 &&& (9223372036854775807 : Int64))), .second, .val (.ref rS), .val (.long q2), .second, .unset, .unset, .unset] [(.long (((q1 &&& (9223372036854775807 : Int64)) + ((((p3.toUInt32 >>> ((2 : Int32) &&& 31).toUInt32).toInt32) % (3 : Int32)).toInt64)) - (1 : Int64)))])
      refine own_stW (fun _ kq => XS.lstore X12.here hx rfl (hb hby at_47) rfl (l' := #[.val (.long q1), .second, .val (.long q2), .second, .val (.int p3), .val (.long (q1 &&& (9223372036854775807 : Int64))), .second, .val (.ref rS), .val (.long (((q1 &&& (9223372036854775807 : Int64)) + ((((p3.toUInt32 >>> ((2 : Int32) &&& 31).toUInt32).toInt32) % (3 : Int32)).toInt64)) - (1 : Int64))), .second, .unset, .unset, .unset]) rfl kq) ?_
      show own_EndsW _ _ _ _ _ _ _ T12 (mkF m 49 #[.val (.long q1), .second, .val (.long q2), .second, .val (.int p3), .val (.long (q1 &&& (9223372036854775807 : Int64))), .second, .val (.ref rS), .val (.long (((q1 &&& (9223372036854775807 : Int64)) + ((((p3.toUInt32 >>> ((2 : Int32) &&& 31).toUInt32).toInt32) % (3 : Int32)).toInt64)) - (1 : Int64))), .second, .unset, .unset, .unset] [])
      obtain ⟨T18, h18, X18, e18, E18, A18, D18, -, st18⟩ := newO X12 hx hZ hown (hw _ (List.mem_of_getElem? (i := 4) rfl)) (hw _ (List.mem_of_getElem? (i := 5) rfl)) (hw _ (List.mem_of_getElem? (i := 6) rfl)) e12 (g := (mkF m 49 #[.val (.long q1), .second, .val (.long q2), .second, .val (.int p3), .val (.long (q1 &&& (9223372036854775807 : Int64))), .second, .val (.ref rS), .val (.long (((q1 &&& (9223372036854775807 : Int64)) + ((((p3.toUInt32 >>> ((2 : Int32) &&& 31).toUInt32).toInt32) % (3 : Int32)).toInt64)) - (1 : Int64))), .second, .unset, .unset, .unset] [])) rfl (hb hby at_49) (by decide) (by decide)
      obtain ⟨b18, g18⟩ : ∃ z, z = h0.size := ⟨_, rfl⟩
      rw [← g18] at A18 D18 st18
      have g_b18 : n0 ≤ b18 := Nat.le_trans (O0.1 ▸ O0.2.1) (Nat.le_of_eq g18.symm)
      have sz_b18 : h0.size ≤ b18 := Nat.le_trans (Keep.refl h0 []).1 (Nat.le_of_eq g18.symm)
      have O18 := O0.ext E18
      have hk := Nat.le_trans hk E18.1
      refine own_stW st18 ?_
      have F18_name : Fld Z h18 b18 "com/example/seatledger/seatledger/model/Volume" "name" "Ljava/lang/String;" .null := D18 (Or.inr (hw _ (List.mem_of_getElem? (i := 33) rfl))) (ty := (.object "java/lang/String")) (by decide)
      have F18_capacity : Fld Z h18 b18 "com/example/seatledger/seatledger/model/Volume" "capacity" "J" (.long (0 : Int64)) := D18 (Or.inr (hw _ (List.mem_of_getElem? (i := 35) rfl))) (ty := .long) (by decide)
      have F18_policy : Fld Z h18 b18 "com/example/seatledger/seatledger/model/Volume" "policy" "Lcom/example/seatledger/seatledger/model/Policy;" .null := D18 (Or.inr (hw _ (List.mem_of_getElem? (i := 37) rfl))) (ty := (.object "com/example/seatledger/seatledger/model/Policy")) (by decide)
      show own_EndsW _ _ _ _ _ _ _ T18 (mkF m 52 #[.val (.long q1), .second, .val (.long q2), .second, .val (.int p3), .val (.long (q1 &&& (9223372036854775807 : Int64))), .second, .val (.ref rS), .val (.long (((q1 &&& (9223372036854775807 : Int64)) + ((((p3.toUInt32 >>> ((2 : Int32) &&& 31).toUInt32).toInt32) % (3 : Int32)).toInt64)) - (1 : Int64))), .second, .unset, .unset, .unset] [(.ref b18)])
      refine own_stW (fun _ kq => XS.dup X18.here hx rfl (hb hby at_52) rfl rfl kq) ?_
      show own_EndsW _ _ _ _ _ _ _ T18 (mkF m 53 #[.val (.long q1), .second, .val (.long q2), .second, .val (.int p3), .val (.long (q1 &&& (9223372036854775807 : Int64))), .second, .val (.ref rS), .val (.long (((q1 &&& (9223372036854775807 : Int64)) + ((((p3.toUInt32 >>> ((2 : Int32) &&& 31).toUInt32).toInt32) % (3 : Int32)).toInt64)) - (1 : Int64))), .second, .unset, .unset, .unset] [(.ref b18), (.ref b18)])
      obtain ⟨sl19, T19, h19, kk19, X19, e19, E19, hS, hk', hZ, hown, st19⟩ := ldcS X18 hx hZ hown (hw _ (List.mem_of_getElem? (i := 7) rfl)) (own_wS hw) e18 hS hk (g := (mkF m 53 #[.val (.long q1), .second, .val (.long q2), .second, .val (.int p3), .val (.long (q1 &&& (9223372036854775807 : Int64))), .second, .val (.ref rS), .val (.long (((q1 &&& (9223372036854775807 : Int64)) + ((((p3.toUInt32 >>> ((2 : Int32) &&& 31).toUInt32).toInt32) % (3 : Int32)).toInt64)) - (1 : Int64))), .second, .unset, .unset, .unset] [(.ref b18), (.ref b18)])) rfl (hb hby at_53) (n := 4) (by decide +kernel) (by decide) (by decide) (by decide)
      have O19 := O18.ext E19
      have hk := Nat.le_trans hk E19.1
      have hk := hk'
      refine own_stW st19 ?_
      show own_EndsW _ _ _ _ _ _ _ T19 (mkF m 55 #[.val (.long q1), .second, .val (.long q2), .second, .val (.int p3), .val (.long (q1 &&& (9223372036854775807 : Int64))), .second, .val (.ref rS), .val (.long (((q1 &&& (9223372036854775807 : Int64)) + ((((p3.toUInt32 >>> ((2 : Int32) &&& 31).toUInt32).toInt32) % (3 : Int32)).toInt64)) - (1 : Int64))), .second, .unset, .unset, .unset] [(.ref sl19), (.ref b18), (.ref b18)])
      refine own_stW (fun _ kq => XS.lload X19.here hx rfl (hb hby at_55) rfl kq) ?_
      show own_EndsW _ _ _ _ _ _ _ T19 (mkF m 57 #[.val (.long q1), .second, .val (.long q2), .second, .val (.int p3), .val (.long (q1 &&& (9223372036854775807 : Int64))), .second, .val (.ref rS), .val (.long (((q1 &&& (9223372036854775807 : Int64)) + ((((p3.toUInt32 >>> ((2 : Int32) &&& 31).toUInt32).toInt32) % (3 : Int32)).toInt64)) - (1 : Int64))), .second, .unset, .unset, .unset] [(.long (q1 &&& (9223372036854775807 : Int64))), (.ref sl19), (.ref b18), (.ref b18)])
      refine own_stW (fun _ kq => XS.aload X19.here hx rfl (hb hby at_57) rfl rfl kq) ?_
      show own_EndsW _ _ _ _ _ _ _ T19 (mkF m 59 #[.val (.long q1), .second, .val (.long q2), .second, .val (.int p3), .val (.long (q1 &&& (9223372036854775807 : Int64))), .second, .val (.ref rS), .val (.long (((q1 &&& (9223372036854775807 : Int64)) + ((((p3.toUInt32 >>> ((2 : Int32) &&& 31).toUInt32).toInt32) % (3 : Int32)).toInt64)) - (1 : Int64))), .second, .unset, .unset, .unset] [(.ref rS), (.long (q1 &&& (9223372036854775807 : Int64))), (.ref sl19), (.ref b18), (.ref b18)])
      obtain ⟨_, _, ⟨T20, L20, k20, n20⟩, -, X20, hS2, hgr, ⟨Lc20, hQ20, l20, y20, z20⟩, st20⟩ := X19.specialBackS hx (y := (⟨"com/example/seatledger/seatledger/model/Volume", "<init>", "(Ljava/lang/String;JLcom/example/seatledger/seatledger/model/Policy;)V"⟩ : MethodName)) rfl hown (mvT hZ (hw _ (List.mem_of_getElem? (i := 15) rfl))) (mvT hZ (hw _ (List.mem_of_getElem? (i := 16) rfl))) (mvT hZ (hw _ (List.mem_of_getElem? (i := 17) rfl))) (by decide) (backOfS (W := 1) (rm_init l Z a0 hw [] b18 sl19 (q1 &&& (9223372036854775807 : Int64)) rS h19 n0 O19 (A18.ext E19) (F18_name.ext E19) (F18_capacity.ext E19) (F18_policy.ext E19) g_b18 (own_cap q1)) hZ (hw _ (List.mem_of_getElem? (i := 17) rfl)) (hw _ (List.mem_of_getElem? (i := 6) rfl)) (by decide) (by decide)) (g := (mkF m 59 #[.val (.long q1), .second, .val (.long q2), .second, .val (.int p3), .val (.long (q1 &&& (9223372036854775807 : Int64))), .second, .val (.ref rS), .val (.long (((q1 &&& (9223372036854775807 : Int64)) + ((((p3.toUInt32 >>> ((2 : Int32) &&& 31).toUInt32).toInt32) % (3 : Int32)).toInt64)) - (1 : Int64))), .second, .unset, .unset, .unset] [(.ref rS), (.long (q1 &&& (9223372036854775807 : Int64))), (.ref sl19), (.ref b18), (.ref b18)])) rfl (by rw [hml]; rfl) (Steps.refl _) (a := b18) (argsL := [(.ref sl19), (.long (q1 &&& (9223372036854775807 : Int64))), (.ref rS)]) (rest := [(.ref b18)]) (lenOf pd_0 rfl) rfl (by show 2 * 0 + _ ≤ _; exact Nat.le_of_eq rfl) (hb hby at_59) (fun _ _ => ⟨rfl, e19, (by decide : 3 + 4 ≤ _), (by decide : 11 + 48 ≤ _)⟩)
      dsimp only [Pt.U, Pt.locs, Pt.cells, Pt.slots] at X20 l20 y20 z20 st20 hQ20 hS2 hgr
      subst l20 y20 z20
      have X20 : Stand p l e room_1 (s.setVm T20.vm) m #[(.long q1), (.long q2), (.int p3)] below meth c T20 _ _ _ := X20
      have hS := foldS hS (show _ ≤ T19.heap.size by rw [e19]; exact hk) hS2 hgr
      have hk := Nat.le_refl T20.heap.size
      have hZ : Z.Warmed39 (s.setVm T20.vm).vm := State.Warmed39.trans hZ hS2.1
      have hown : (s.setVm T20.vm).vm.findClass "com/example/seatledger/seatledger/model/VolumeAdmitsAnotherPinLaw" = some m.cls := by rw [show (s.setVm T20.vm).vm = T20.vm from rfl, hS2.1.alike.findClass]; exact hown
      obtain ⟨rfl, N20q, K20, O20, f20_0, f20_1, f20_2⟩ := hQ20
      have N20 := Fr.app N0 N20q
      refine own_trW st20 ?_
      show own_EndsW _ _ _ _ _ _ _ T20 (mkF m 62 #[.val (.long q1), .second, .val (.long q2), .second, .val (.int p3), .val (.long (q1 &&& (9223372036854775807 : Int64))), .second, .val (.ref rS), .val (.long (((q1 &&& (9223372036854775807 : Int64)) + ((((p3.toUInt32 >>> ((2 : Int32) &&& 31).toUInt32).toInt32) % (3 : Int32)).toInt64)) - (1 : Int64))), .second, .unset, .unset, .unset] [(.ref b18)])
      refine own_stW (fun _ kq => XS.astore X20.here hx rfl (hb hby at_62) rfl rfl (l' := #[.val (.long q1), .second, .val (.long q2), .second, .val (.int p3), .val (.long (q1 &&& (9223372036854775807 : Int64))), .second, .val (.ref rS), .val (.long (((q1 &&& (9223372036854775807 : Int64)) + ((((p3.toUInt32 >>> ((2 : Int32) &&& 31).toUInt32).toInt32) % (3 : Int32)).toInt64)) - (1 : Int64))), .second, .val (.ref b18), .unset, .unset]) rfl kq) ?_
      show own_EndsW _ _ _ _ _ _ _ T20 (mkF m 64 #[.val (.long q1), .second, .val (.long q2), .second, .val (.int p3), .val (.long (q1 &&& (9223372036854775807 : Int64))), .second, .val (.ref rS), .val (.long (((q1 &&& (9223372036854775807 : Int64)) + ((((p3.toUInt32 >>> ((2 : Int32) &&& 31).toUInt32).toInt32) % (3 : Int32)).toInt64)) - (1 : Int64))), .second, .val (.ref b18), .unset, .unset] [])
      refine own_stW (fun _ kq => XS.aload X20.here hx rfl (hb hby at_64) rfl rfl kq) ?_
      show own_EndsW _ _ _ _ _ _ _ T20 (mkF m 66 #[.val (.long q1), .second, .val (.long q2), .second, .val (.int p3), .val (.long (q1 &&& (9223372036854775807 : Int64))), .second, .val (.ref rS), .val (.long (((q1 &&& (9223372036854775807 : Int64)) + ((((p3.toUInt32 >>> ((2 : Int32) &&& 31).toUInt32).toInt32) % (3 : Int32)).toInt64)) - (1 : Int64))), .second, .val (.ref b18), .unset, .unset] [(.ref b18)])
      refine own_stW (fun _ kq => XS.lload X20.here hx rfl (hb hby at_66) rfl kq) ?_
      show own_EndsW _ _ _ _ _ _ _ T20 (mkF m 68 #[.val (.long q1), .second, .val (.long q2), .second, .val (.int p3), .val (.long (q1 &&& (9223372036854775807 : Int64))), .second, .val (.ref rS), .val (.long (((q1 &&& (9223372036854775807 : Int64)) + ((((p3.toUInt32 >>> ((2 : Int32) &&& 31).toUInt32).toInt32) % (3 : Int32)).toInt64)) - (1 : Int64))), .second, .val (.ref b18), .unset, .unset] [(.long (((q1 &&& (9223372036854775807 : Int64)) + ((((p3.toUInt32 >>> ((2 : Int32) &&& 31).toUInt32).toInt32) % (3 : Int32)).toInt64)) - (1 : Int64))), (.ref b18)])
      obtain ⟨cq21, kq21, q21a, q21b, q21c⟩ := isOf hZ rfl f20_0
      obtain ⟨_, _, ⟨T21, L21, k21, n21⟩, -, X21, ⟨Lc21, hQ21, l21, y21, z21⟩, st21⟩ := X20.virtualBack hx (y := (⟨"com/example/seatledger/seatledger/model/Volume", "admitsAnother", "(J)Z"⟩ : MethodName)) (z := (⟨"com/example/seatledger/seatledger/model/Volume", "admitsAnother", "(J)Z"⟩ : MethodName)) hown (mvT hZ (hw _ (List.mem_of_getElem? (i := 38) rfl))) (mvT hZ (hw _ (List.mem_of_getElem? (i := 39) rfl))) (notFace_of_selects (args := #[]) (mvT hZ (hw _ (List.mem_of_getElem? (i := 41) rfl)))) (mvT hZ (hw _ (List.mem_of_getElem? (i := 41) rfl))) (mvT hZ (hw _ (List.mem_of_getElem? (i := 40) rfl))) (by decide) (backOf (W := 0) (rm_admS l Z a0 hw [] b18 (((q1 &&& (9223372036854775807 : Int64)) + ((((p3.toUInt32 >>> ((2 : Int32) &&& 31).toUInt32).toInt32) % (3 : Int32)).toInt64)) - (1 : Int64)) (q1 &&& (9223372036854775807 : Int64)) rH rS T20.heap n0 O20 f20_1 f20_2 G) hZ (hw _ (List.mem_of_getElem? (i := 42) rfl)) (hw _ (List.mem_of_getElem? (i := 6) rfl)) (by decide) (by decide)) q21a q21c (g := (mkF m 68 #[.val (.long q1), .second, .val (.long q2), .second, .val (.int p3), .val (.long (q1 &&& (9223372036854775807 : Int64))), .second, .val (.ref rS), .val (.long (((q1 &&& (9223372036854775807 : Int64)) + ((((p3.toUInt32 >>> ((2 : Int32) &&& 31).toUInt32).toInt32) % (3 : Int32)).toInt64)) - (1 : Int64))), .second, .val (.ref b18), .unset, .unset] [(.long (((q1 &&& (9223372036854775807 : Int64)) + ((((p3.toUInt32 >>> ((2 : Int32) &&& 31).toUInt32).toInt32) % (3 : Int32)).toInt64)) - (1 : Int64))), (.ref b18)])) rfl (by rw [hml]; rfl) (Steps.refl _) (argsL := [(.long (((q1 &&& (9223372036854775807 : Int64)) + ((((p3.toUInt32 >>> ((2 : Int32) &&& 31).toUInt32).toInt32) % (3 : Int32)).toInt64)) - (1 : Int64)))]) (rest := []) (lenOf pd_3 rfl) rfl (by show 2 * 0 + _ ≤ _; exact Nat.le_of_eq rfl) (hb hby at_68) (fun _ _ => ⟨rfl, rfl, (by decide : 7 + 0 ≤ _), (by decide : 59 + 0 ≤ _)⟩)
      dsimp only [Pt.U, Pt.locs, Pt.cells, Pt.slots] at X21 l21 y21 z21 st21 hQ21
      subst l21 y21 z21
      obtain ⟨rfl, N21q, e21⟩ := hQ21
      have N21 := Fr.app N20 N21q
      refine own_trW st21 ?_
      show own_EndsW _ _ _ _ _ _ _ T21 (mkF m 71 #[.val (.long q1), .second, .val (.long q2), .second, .val (.int p3), .val (.long (q1 &&& (9223372036854775807 : Int64))), .second, .val (.ref rS), .val (.long (((q1 &&& (9223372036854775807 : Int64)) + ((((p3.toUInt32 >>> ((2 : Int32) &&& 31).toUInt32).toInt32) % (3 : Int32)).toInt64)) - (1 : Int64))), .second, .val (.ref b18), .unset, .unset] [(.int (1 : Int32))])
      refine own_stW (fun _ kq => XS.istore X21.here hx rfl (hb hby at_71) rfl (l' := #[.val (.long q1), .second, .val (.long q2), .second, .val (.int p3), .val (.long (q1 &&& (9223372036854775807 : Int64))), .second, .val (.ref rS), .val (.long (((q1 &&& (9223372036854775807 : Int64)) + ((((p3.toUInt32 >>> ((2 : Int32) &&& 31).toUInt32).toInt32) % (3 : Int32)).toInt64)) - (1 : Int64))), .second, .val (.ref b18), .val (.int (1 : Int32)), .unset]) rfl kq) ?_
      show own_EndsW _ _ _ _ _ _ _ T21 (mkF m 73 #[.val (.long q1), .second, .val (.long q2), .second, .val (.int p3), .val (.long (q1 &&& (9223372036854775807 : Int64))), .second, .val (.ref rS), .val (.long (((q1 &&& (9223372036854775807 : Int64)) + ((((p3.toUInt32 >>> ((2 : Int32) &&& 31).toUInt32).toInt32) % (3 : Int32)).toInt64)) - (1 : Int64))), .second, .val (.ref b18), .val (.int (1 : Int32)), .unset] [])
      refine own_stW (fun _ kq => XS.aload X21.here hx rfl (hb hby at_73) rfl rfl kq) ?_
      show own_EndsW _ _ _ _ _ _ _ T21 (mkF m 75 #[.val (.long q1), .second, .val (.long q2), .second, .val (.int p3), .val (.long (q1 &&& (9223372036854775807 : Int64))), .second, .val (.ref rS), .val (.long (((q1 &&& (9223372036854775807 : Int64)) + ((((p3.toUInt32 >>> ((2 : Int32) &&& 31).toUInt32).toInt32) % (3 : Int32)).toInt64)) - (1 : Int64))), .second, .val (.ref b18), .val (.int (1 : Int32)), .unset] [(.ref rS)])
      obtain ⟨T22, X22, e22, st22⟩ := getS2 X21 hx hZ hown (host := "") (Or.inl (hw _ (List.mem_of_getElem? (i := 50) rfl))) Via.refl e21 (S_S.ext O20.2) (g := (mkF m 75 #[.val (.long q1), .second, .val (.long q2), .second, .val (.int p3), .val (.long (q1 &&& (9223372036854775807 : Int64))), .second, .val (.ref rS), .val (.long (((q1 &&& (9223372036854775807 : Int64)) + ((((p3.toUInt32 >>> ((2 : Int32) &&& 31).toUInt32).toInt32) % (3 : Int32)).toInt64)) - (1 : Int64))), .second, .val (.ref b18), .val (.int (1 : Int32)), .unset] [(.ref rS)])) rfl (hb hby at_75)
      refine own_stW st22 ?_
      show own_EndsW _ _ _ _ _ _ _ T22 (mkF m 78 #[.val (.long q1), .second, .val (.long q2), .second, .val (.int p3), .val (.long (q1 &&& (9223372036854775807 : Int64))), .second, .val (.ref rS), .val (.long (((q1 &&& (9223372036854775807 : Int64)) + ((((p3.toUInt32 >>> ((2 : Int32) &&& 31).toUInt32).toInt32) % (3 : Int32)).toInt64)) - (1 : Int64))), .second, .val (.ref b18), .val (.int (1 : Int32)), .unset] [(.ref rS), (.ref rS)])
      refine own_stW (fun _ kq => Jvm.RoadKit.acmp (g := (mkF m 78 #[.val (.long q1), .second, .val (.long q2), .second, .val (.int p3), .val (.long (q1 &&& (9223372036854775807 : Int64))), .second, .val (.ref rS), .val (.long (((q1 &&& (9223372036854775807 : Int64)) + ((((p3.toUInt32 >>> ((2 : Int32) &&& 31).toUInt32).toInt32) % (3 : Int32)).toInt64)) - (1 : Int64))), .second, .val (.ref b18), .val (.int (1 : Int32)), .unset] [(.ref rS), (.ref rS)])) X22 hx rfl rfl rfl (pc0 := 78) (pc' := 81) (same := true) rfl (hb hby at_78) rfl (decide_eq_true rfl) (by decide) (by decide) kq) ?_
      show own_EndsW _ _ _ _ _ _ _ T22 (mkF m 81 #[.val (.long q1), .second, .val (.long q2), .second, .val (.int p3), .val (.long (q1 &&& (9223372036854775807 : Int64))), .second, .val (.ref rS), .val (.long (((q1 &&& (9223372036854775807 : Int64)) + ((((p3.toUInt32 >>> ((2 : Int32) &&& 31).toUInt32).toInt32) % (3 : Int32)).toInt64)) - (1 : Int64))), .second, .val (.ref b18), .val (.int (1 : Int32)), .unset] [])
      refine own_stW (fun _ kq => XS.iconst X22.here hx rfl (hb hby at_81) kq) ?_
      show own_EndsW _ _ _ _ _ _ _ T22 (mkF m 82 #[.val (.long q1), .second, .val (.long q2), .second, .val (.int p3), .val (.long (q1 &&& (9223372036854775807 : Int64))), .second, .val (.ref rS), .val (.long (((q1 &&& (9223372036854775807 : Int64)) + ((((p3.toUInt32 >>> ((2 : Int32) &&& 31).toUInt32).toInt32) % (3 : Int32)).toInt64)) - (1 : Int64))), .second, .val (.ref b18), .val (.int (1 : Int32)), .unset] [(.int (1 : Int32))])
      refine own_stW (fun _ kq => XS.istore X22.here hx rfl (hb hby at_82) rfl (l' := #[.val (.long q1), .second, .val (.long q2), .second, .val (.int p3), .val (.long (q1 &&& (9223372036854775807 : Int64))), .second, .val (.ref rS), .val (.long (((q1 &&& (9223372036854775807 : Int64)) + ((((p3.toUInt32 >>> ((2 : Int32) &&& 31).toUInt32).toInt32) % (3 : Int32)).toInt64)) - (1 : Int64))), .second, .val (.ref b18), .val (.int (1 : Int32)), .val (.int (1 : Int32))]) rfl kq) ?_
      show own_EndsW _ _ _ _ _ _ _ T22 (mkF m 84 #[.val (.long q1), .second, .val (.long q2), .second, .val (.int p3), .val (.long (q1 &&& (9223372036854775807 : Int64))), .second, .val (.ref rS), .val (.long (((q1 &&& (9223372036854775807 : Int64)) + ((((p3.toUInt32 >>> ((2 : Int32) &&& 31).toUInt32).toInt32) % (3 : Int32)).toInt64)) - (1 : Int64))), .second, .val (.ref b18), .val (.int (1 : Int32)), .val (.int (1 : Int32))] [])
      refine own_stW (fun _ kq => XS.goto X22.here hx rfl (pc0 := 84) (pc' := 102) rfl (hb hby at_84) (by decide) (by decide) kq) ?_
      show own_EndsW _ _ _ _ _ _ _ T22 (mkF m 102 #[.val (.long q1), .second, .val (.long q2), .second, .val (.int p3), .val (.long (q1 &&& (9223372036854775807 : Int64))), .second, .val (.ref rS), .val (.long (((q1 &&& (9223372036854775807 : Int64)) + ((((p3.toUInt32 >>> ((2 : Int32) &&& 31).toUInt32).toInt32) % (3 : Int32)).toInt64)) - (1 : Int64))), .second, .val (.ref b18), .val (.int (1 : Int32)), .val (.int (1 : Int32))] [])
      refine own_stW (fun _ kq => XS.iload X22.here hx rfl (hb hby at_102) rfl kq) ?_
      show own_EndsW _ _ _ _ _ _ _ T22 (mkF m 104 #[.val (.long q1), .second, .val (.long q2), .second, .val (.int p3), .val (.long (q1 &&& (9223372036854775807 : Int64))), .second, .val (.ref rS), .val (.long (((q1 &&& (9223372036854775807 : Int64)) + ((((p3.toUInt32 >>> ((2 : Int32) &&& 31).toUInt32).toInt32) % (3 : Int32)).toInt64)) - (1 : Int64))), .second, .val (.ref b18), .val (.int (1 : Int32)), .val (.int (1 : Int32))] [(.int (1 : Int32))])
      refine own_stW (fun _ kq => XS.iload X22.here hx rfl (hb hby at_104) rfl kq) ?_
      show own_EndsW _ _ _ _ _ _ _ T22 (mkF m 106 #[.val (.long q1), .second, .val (.long q2), .second, .val (.int p3), .val (.long (q1 &&& (9223372036854775807 : Int64))), .second, .val (.ref rS), .val (.long (((q1 &&& (9223372036854775807 : Int64)) + ((((p3.toUInt32 >>> ((2 : Int32) &&& 31).toUInt32).toInt32) % (3 : Int32)).toInt64)) - (1 : Int64))), .second, .val (.ref b18), .val (.int (1 : Int32)), .val (.int (1 : Int32))] [(.int (1 : Int32)), (.int (1 : Int32))])
      show own_EndsW _ _ _ _ _ _ _ T22 (mkF m 106 #[.val (.long q1), .second, .val (.long q2), .second, .val (.int p3), .val (.long (q1 &&& (9223372036854775807 : Int64))), .second, .val (.ref rS), .val (.long (((q1 &&& (9223372036854775807 : Int64)) + ((((p3.toUInt32 >>> ((2 : Int32) &&& 31).toUInt32).toInt32) % (3 : Int32)).toInt64)) - (1 : Int64))), .second, .val (.ref b18), .val (.int (1 : Int32)), .val (.int (1 : Int32))] [(.int (1 : Int32)), (.int (1 : Int32))])
      refine own_stW (fun _ kq => XS.icmpNo X22.here hx rfl (hb hby at_106) rfl (teq (by decide : (1 : Int32) = (1 : Int32))).2 kq) ?_
      show own_EndsW _ _ _ _ _ _ _ T22 (mkF m 109 #[.val (.long q1), .second, .val (.long q2), .second, .val (.int p3), .val (.long (q1 &&& (9223372036854775807 : Int64))), .second, .val (.ref rS), .val (.long (((q1 &&& (9223372036854775807 : Int64)) + ((((p3.toUInt32 >>> ((2 : Int32) &&& 31).toUInt32).toInt32) % (3 : Int32)).toInt64)) - (1 : Int64))), .second, .val (.ref b18), .val (.int (1 : Int32)), .val (.int (1 : Int32))] [])
      refine own_stW (fun _ kq => XS.iconst X22.here hx rfl (hb hby at_109) kq) ?_
      show own_EndsW _ _ _ _ _ _ _ T22 (mkF m 110 #[.val (.long q1), .second, .val (.long q2), .second, .val (.int p3), .val (.long (q1 &&& (9223372036854775807 : Int64))), .second, .val (.ref rS), .val (.long (((q1 &&& (9223372036854775807 : Int64)) + ((((p3.toUInt32 >>> ((2 : Int32) &&& 31).toUInt32).toInt32) % (3 : Int32)).toInt64)) - (1 : Int64))), .second, .val (.ref b18), .val (.int (1 : Int32)), .val (.int (1 : Int32))] [(.int (1 : Int32))])
      refine own_stW (fun _ kq => XS.goto X22.here hx rfl (pc0 := 110) (pc' := 114) rfl (hb hby at_110) (by decide) (by decide) kq) ?_
      show own_EndsW _ _ _ _ _ _ _ T22 (mkF m 114 #[.val (.long q1), .second, .val (.long q2), .second, .val (.int p3), .val (.long (q1 &&& (9223372036854775807 : Int64))), .second, .val (.ref rS), .val (.long (((q1 &&& (9223372036854775807 : Int64)) + ((((p3.toUInt32 >>> ((2 : Int32) &&& 31).toUInt32).toInt32) % (3 : Int32)).toInt64)) - (1 : Int64))), .second, .val (.ref b18), .val (.int (1 : Int32)), .val (.int (1 : Int32))] [(.int (1 : Int32))])
      refine own_retNW X22 hS (by rw [e22]; exact hk) hx (t := .boolean) Bd.returns (by simp) (hb hby at_114) hlk (by decide) (by decide) (w := (1 : Int32)) (by decide) ?_
      show Q_rm_law Z q1 q2 p3 rH rS h0 n0 _ T22.heap _
      rw [e22]
      exact ⟨rfl, N21⟩
set_option maxRecDepth 65536 in
set_option maxHeartbeats 40000000 in
theorem comes_1 {Post : Tables → Env → Array Value → State → Outcome → State → Prop} (hpost : ∀ tb e args s v u, (limb_1_1.after args s (.returned v) u = true ∧ limb_1_2.after args s (.returned v) u = true ∧ True) → ReturnedEndW s (.returned v) u (Jvm.fieldLocs frame_1_writes args s ++ Jvm.arrayLocs frame_1_arrays args s ++ Jvm.staticLocs frame_1_statics s) 16 3200 → Post tb e args s (.returned v) u) :
    ArmFor flags0 classFile x code maxLocals ret World_1 tables_1 room_1 Calls_1 rest_1 Pre_1 Post := by
  intro l hfl _ _ p e ha hc hk s m args below hf hA hF happ hP
  obtain ⟨hcalls, hrest, hpre⟩ := hP
  obtain ⟨-, -, -, hnamed, -, -, -, hat⟩ := (Spec.applies_iff hf).mp happ
  obtain ⟨hg, hn⟩ := and_e (Cond.before_iff.mp (show (Jvm.Cond.and given_1 narrow_1).before args s = true from hpre))
  obtain ⟨g0, hg⟩ := and_e hg
  obtain ⟨g1, hg⟩ := and_e hg
  obtain ⟨g2, hg⟩ := and_e hg
  have g3 := hg
  obtain ⟨w0, w1, w2, rfl⟩ : ∃ w0 w1 w2 : Value, args = #[w0, w1, w2] := by
    have hs : args.size = 3 := by simpa [Cond.value, given_1] using g0
    obtain ⟨L⟩ := args
    match L, hs with
    | [w0, w1, w2], _ => exact ⟨w0, w1, w2, rfl⟩
  have hw := fun d (hd : d ∈ tables_1) => atoms_spec (ws := Jvm.Cond.code x code maxLocals ret :: tables_1) hat d (List.mem_cons_of_mem _ hd)
  obtain ⟨i0, ei0⟩ := isL_v g1
  obtain rfl : w0 = (.long i0) := Option.some.inj ei0
  obtain ⟨i1, ei1⟩ := isL_v g2
  obtain rfl : w1 = (.long i1) := Option.some.inj ei1
  obtain ⟨i2, ei2⟩ := is_v g3
  obtain rfl : w2 = (.int i2) := Option.some.inj ei2
  obtain ⟨c0, hn⟩ := and_e hn
  obtain ⟨c1, hn⟩ := and_e hn
  obtain ⟨c2, hn⟩ := and_e hn
  obtain ⟨c3, hn⟩ := and_e hn
  obtain ⟨c4, hn⟩ := and_e hn
  have c5 := hn
  obtain ⟨rH, v_H⟩ := exa_v c0
  have E_H := Exa.start v_H c0
  have S_H := Sta.start v_H (Or.inr ⟨(hw _ (List.mem_of_getElem? (i := 2) rfl)), (hw _ (List.mem_of_getElem? (i := 3) rfl))⟩)
  obtain ⟨rS, v_S⟩ := exa_v c2
  have E_S := Exa.start v_S c2
  have S_S := Sta.start v_S (Or.inr ⟨(hw _ (List.mem_of_getElem? (i := 2) rfl)), (hw _ (List.mem_of_getElem? (i := 51) rfl))⟩)
  have F_H_exceedable := own_fldI v_H c1
  have F_H_ordinal := own_fldI v_H c3
  have F_S_ordinal := own_fldI v_S c4
  have F_S_exceedable := own_fldI v_S c5
  have G : own_W s rH rS := ⟨S_H, E_H, S_S, E_S, F_H_exceedable, F_H_ordinal, F_S_ordinal, F_S_exceedable⟩
  obtain ⟨n, o, h1, h2, h3, _, L, rfl, ⟨rfl, N⟩, hq⟩ := rm_law l s _ hw tables_1 i0 i1 i2 rH rS s.heap s.heap.size (Old.start s) G p e ha hc hk s m _ below hf ((Spec.applies_iff_loose hf).mp happ).1 ⟨rfl, State.Warmed39.refl s, rfl⟩ trivial
  refine ⟨n, _, h1, h2, h3, hpost _ _ _ _ _ _ ⟨Cond.after_iff.mpr rfl, Cond.after_iff.mpr (eq_i res_at (Term.int_eval (1)) rfl), trivial⟩ ⟨hq.1, hq.2.1, hq.2.2.1, (hq.2.2.2.sift fun y hy => Or.inr (N y hy)).mono (by decide) (by decide)⟩⟩
theorem main_1_1 : Claimed_1_1 := comes_1 fun _ _ _ _ _ _ h hF => ⟨h.1, hF⟩
theorem main_1_2 : Claimed_1_2 := comes_1 fun _ _ _ _ _ _ h hF => ⟨h.2.1, hF⟩
end Jvm.Pilot.@@N@@
namespace Jvm.Pilot.@@N@@
open Jvm Jvm.ClassFile Sem Op Lib Jvm.Free Jvm.Stand Jvm.Pilot.@@N@@.Jvm.D
/-! MADE BY PROGRAM (witnessworld.py) out of the Statement's table words and the real class files: 19 classes; the members and pool entries that the words name. The judged class is class 1, her method 1. -/
namespace start1
open Jvm.ClassFile
def u (s : String) : CpInfo := .utf8 (stringToUtf16 s)
/-- a pool by its gaps: so many unusable entries, then the entry; so many at the end -/
def gap : Nat → List CpInfo → List CpInfo
  | 0, r => r
  | n + 1, r => .unusable :: gap n r
def poolList (es : List (Nat × CpInfo)) (last : Nat) : List CpInfo := es.foldr (fun e r => gap e.1 (e.2 :: r)) (gap last [])
def pool (es : List (Nat × CpInfo)) (last : Nat) : Array CpInfo := ⟨poolList es last⟩
def fileOf (pool : Array CpInfo) (this : Nat) (attrs : Array Attribute := #[]) (ms : Array MethodInfo := #[]) (fl : Nat := 33) (sup : Nat := 0) (ifs : Array Nat := #[]) (fds : Array FieldInfo := #[]) : ClassFile where
  minorVersion := 0
  majorVersion := 65
  constantPool := pool
  accessFlags := fl
  thisClass := this
  superClass := sup
  interfaces := ifs
  fields := fds
  methods := ms
  attributes := attrs
def plain (name : String) (sup : Option ClassId) : Class where
  name := name
  kind := .ordinary
  loader := none
  accessFlags := 33
  super := sup
  interfaces := #[]
  cf := none
  fields := #[]
  methods := #[]
  instanceTypes := #[]
  staticTypes := #[]
  resolved := #[]
  callSites := []
  init := .initialized
  statics := none
  mirror := none

def pool0 : Array CpInfo := pool [(5, u "<init>"), (0, u "()V"), (1, .class_ 10), (1, u "java/lang/Object")] 113

def k0c0 : Code := { maxStack := 0, maxLocals := 1, code := object_method_1_code, exceptionTable := #[], attributes := #[] }
def k0m0 : Method := { name := "<init>", desc := "()V", sig := { parameters := [], returnType := none }, accessFlags := 1, code := some k0c0 }
/-- java/lang/Object -/
def k0 : Class := { plain "java/lang/Object" none with
  accessFlags := 33
  interfaces := #[]
  cf := some (fileOf pool0 8 #[] #[{ accessFlags := 1, nameIndex := 5, descriptorIndex := 6, attributes := #[] }] 33 0 #[] #[])
  fields := #[]
  methods := #[k0m0]
  instanceTypes := #[]
  staticTypes := #[]
  resolved := Array.replicate 124 none
  statics := none }

def pool1 : Array CpInfo := pool [(2, .class_ 4), (1, u "java/lang/Object"), (0, u "<init>"), (0, u "()V"), (2, .long 9223372036854775807), (1, .fieldref 12 13), (0, .class_ 14), (0, .nameAndType 15 16), (0, u "com/example/seatledger/seatledger/model/Policy"), (0, u "SOFT"), (0, u "Lcom/example/seatledger/seatledger/model/Policy;"), (0, .fieldref 12 18), (0, .nameAndType 19 16), (0, u "HARD"), (0, .class_ 21), (0, u "com/example/seatledger/seatledger/model/Volume"), (0, .string 23), (0, u "v"), (0, .methodref 20 25), (0, .nameAndType 5 26), (0, u "(Ljava/lang/String;JLcom/example/seatledger/seatledger/model/Policy;)V"), (0, .methodref 20 28), (0, .nameAndType 29 30), (0, u "admitsAnother"), (0, u "(J)Z"), (0, .class_ 32), (0, u "com/example/seatledger/seatledger/model/VolumeAdmitsAnotherPinLaw"), (2, u "law"), (0, u "(JJI)Z")] 3

def k1m0 : Method := { name := "<init>", desc := "()V", sig := { parameters := [], returnType := none }, accessFlags := 1, code := none }
def k1c1 : Code := { maxStack := 6, maxLocals := 13, code := code, exceptionTable := #[], attributes := #[] }
def k1m1 : Method := { name := "law", desc := "(JJI)Z", sig := { parameters := [.long, .long, .int], returnType := some .boolean }, accessFlags := 9, code := some k1c1 }
/-- com/example/seatledger/seatledger/model/VolumeAdmitsAnotherPinLaw -/
def k1 : Class := { plain "com/example/seatledger/seatledger/model/VolumeAdmitsAnotherPinLaw" (some 0) with
  accessFlags := 49
  interfaces := #[]
  cf := some (fileOf pool1 31 #[] #[{ accessFlags := 1, nameIndex := 5, descriptorIndex := 6, attributes := #[] }, { accessFlags := 9, nameIndex := 35, descriptorIndex := 36, attributes := #[] }] 49 2 #[] #[])
  fields := #[]
  methods := #[k1m0, k1m1]
  instanceTypes := #[]
  staticTypes := #[]
  resolved := Array.replicate 40 none
  statics := none }

def pool2 : Array CpInfo := pool [(1, .class_ 2), (0, u "java/lang/constant/Constable"), (0, .class_ 4), (0, u "java/lang/Object")] 6

/-- java/lang/constant/Constable -/
def k2 : Class := { plain "java/lang/constant/Constable" (some 0) with
  accessFlags := 1537
  interfaces := #[]
  cf := some (fileOf pool2 1 #[] #[] 1537 3 #[] #[])
  fields := #[]
  methods := #[]
  instanceTypes := #[]
  staticTypes := #[]
  resolved := Array.replicate 11 none
  statics := none }

def pool3 : Array CpInfo := pool [(1, .class_ 2), (0, u "java/lang/Comparable"), (0, .class_ 4), (0, u "java/lang/Object")] 7

/-- java/lang/Comparable -/
def k3 : Class := { plain "java/lang/Comparable" (some 0) with
  accessFlags := 1537
  interfaces := #[]
  cf := some (fileOf pool3 1 #[] #[] 1537 3 #[] #[])
  fields := #[]
  methods := #[]
  instanceTypes := #[]
  staticTypes := #[]
  resolved := Array.replicate 12 none
  statics := none }

def pool4 : Array CpInfo := pool [(1, .class_ 2), (0, u "java/io/Serializable"), (0, .class_ 4), (0, u "java/lang/Object")] 2

/-- java/io/Serializable -/
def k4 : Class := { plain "java/io/Serializable" (some 0) with
  accessFlags := 1537
  interfaces := #[]
  cf := some (fileOf pool4 1 #[] #[] 1537 3 #[] #[])
  fields := #[]
  methods := #[]
  instanceTypes := #[]
  staticTypes := #[]
  resolved := Array.replicate 7 none
  statics := none }

def pool5 : Array CpInfo := pool [(2, .class_ 4), (1, u "java/lang/Enum"), (0, u "name"), (0, u "Ljava/lang/String;"), (2, u "ordinal"), (0, u "I"), (1, .class_ 14), (1, u "java/lang/Object"), (4, u "hash"), (86, .class_ 108), (1, u "java/lang/Enum$EnumDesc"), (2, .class_ 112), (0, u "java/lang/constant/Constable"), (0, .class_ 114), (0, u "java/lang/Comparable"), (0, .class_ 116), (0, u "java/io/Serializable")] 87

/-- java/lang/Enum -/
def k5 : Class := { plain "java/lang/Enum" (some 0) with
  accessFlags := 1057
  interfaces := #[2, 3, 4]
  cf := some (fileOf pool5 2 #[.nestMembers #[106]] #[] 1057 12 #[111, 113, 115] #[{ accessFlags := 18, nameIndex := 5, descriptorIndex := 6, attributes := #[] }, { accessFlags := 18, nameIndex := 9, descriptorIndex := 10, attributes := #[] }, { accessFlags := 2, nameIndex := 19, descriptorIndex := 10, attributes := #[] }])
  fields := #[{ name := "name", type := (.object "java/lang/String"), accessFlags := 18, slot := 0, constantValue := 0 }, { name := "ordinal", type := .int, accessFlags := 18, slot := 1, constantValue := 0 }, { name := "hash", type := .int, accessFlags := 2, slot := 2, constantValue := 0 }]
  methods := #[]
  instanceTypes := #[(.object "java/lang/String"), .int, .int]
  staticTypes := #[]
  resolved := Array.replicate 204 none
  statics := none }

def pool6 : Array CpInfo := pool [(9, .class_ 10), (0, u "com/example/seatledger/seatledger/model/WireNamed"), (20, .class_ 32), (0, u "java/lang/Object")] 9

/-- com/example/seatledger/seatledger/model/WireNamed -/
def k6 : Class := { plain "com/example/seatledger/seatledger/model/WireNamed" (some 0) with
  accessFlags := 1537
  interfaces := #[]
  cf := some (fileOf pool6 9 #[] #[] 1537 31 #[] #[])
  fields := #[]
  methods := #[]
  instanceTypes := #[]
  staticTypes := #[]
  resolved := Array.replicate 42 none
  statics := none }

def pool7 : Array CpInfo := pool [(1, .class_ 2), (0, u "com/example/seatledger/seatledger/model/Policy"), (2, u "HARD"), (0, u "Lcom/example/seatledger/seatledger/model/Policy;"), (2, u "SOFT"), (2, u "$VALUES"), (0, u "[Lcom/example/seatledger/seatledger/model/Policy;"), (6, .class_ 22), (1, u "java/lang/Enum"), (8, u "wireName"), (0, u "Ljava/lang/String;"), (0, .fieldref 1 34), (0, .nameAndType 35 36), (0, u "exceedable"), (0, u "Z"), (1, .class_ 40), (1, u "com/example/seatledger/seatledger/model/WireNamed"), (23, u "()Z")] 7

def k7c0 : Code := { maxStack := 1, maxLocals := 1, code := prog_10_method_5_code, exceptionTable := #[], attributes := #[] }
def k7m0 : Method := { name := "exceedable", desc := "()Z", sig := { parameters := [], returnType := some .boolean }, accessFlags := 1, code := some k7c0 }
/-- com/example/seatledger/seatledger/model/Policy -/
def k7 : Class := { plain "com/example/seatledger/seatledger/model/Policy" (some 5) with
  accessFlags := 16433
  interfaces := #[6]
  cf := some (fileOf pool7 1 #[] #[{ accessFlags := 1, nameIndex := 35, descriptorIndex := 64, attributes := #[] }] 16433 20 #[38] #[{ accessFlags := 16409, nameIndex := 5, descriptorIndex := 6, attributes := #[] }, { accessFlags := 16409, nameIndex := 9, descriptorIndex := 6, attributes := #[] }, { accessFlags := 18, nameIndex := 31, descriptorIndex := 32, attributes := #[] }, { accessFlags := 18, nameIndex := 35, descriptorIndex := 36, attributes := #[] }, { accessFlags := 4122, nameIndex := 12, descriptorIndex := 13, attributes := #[] }])
  fields := #[{ name := "HARD", type := (.object "com/example/seatledger/seatledger/model/Policy"), accessFlags := 16409, slot := 0, constantValue := 0 }, { name := "SOFT", type := (.object "com/example/seatledger/seatledger/model/Policy"), accessFlags := 16409, slot := 1, constantValue := 0 }, { name := "wireName", type := (.object "java/lang/String"), accessFlags := 18, slot := 3, constantValue := 0 }, { name := "exceedable", type := .boolean, accessFlags := 18, slot := 4, constantValue := 0 }, { name := "$VALUES", type := (.array (.object "com/example/seatledger/seatledger/model/Policy")), accessFlags := 4122, slot := 2, constantValue := 0 }]
  methods := #[k7m0]
  instanceTypes := #[(.object "java/lang/String"), .int, .int, (.object "java/lang/String"), .boolean]
  staticTypes := #[(.object "com/example/seatledger/seatledger/model/Policy"), (.object "com/example/seatledger/seatledger/model/Policy"), (.array (.object "com/example/seatledger/seatledger/model/Policy"))]
  resolved := Array.replicate 72 none
  statics := some 0 }

def pool8 : Array CpInfo := pool [(1, .methodref 2 3), (0, .class_ 4), (0, .nameAndType 5 6), (0, u "java/lang/Object"), (0, u "<init>"), (0, u "()V"), (0, .class_ 8), (0, u "java/lang/Record")] 13

def k8c0 : Code := { maxStack := 1, maxLocals := 1, code := jdk_30_method_1_code, exceptionTable := #[], attributes := #[] }
def k8m0 : Method := { name := "<init>", desc := "()V", sig := { parameters := [], returnType := none }, accessFlags := 4, code := some k8c0 }
/-- java/lang/Record -/
def k8 : Class := { plain "java/lang/Record" (some 0) with
  accessFlags := 1057
  interfaces := #[]
  cf := some (fileOf pool8 7 #[] #[{ accessFlags := 4, nameIndex := 5, descriptorIndex := 6, attributes := #[] }] 1057 2 #[] #[])
  fields := #[]
  methods := #[k8m0]
  instanceTypes := #[]
  staticTypes := #[]
  resolved := Array.replicate 22 none
  statics := none }

def pool9 : Array CpInfo := pool [(1, .methodref 2 3), (0, .class_ 4), (0, .nameAndType 5 6), (0, u "java/lang/Record"), (0, u "<init>"), (0, u "()V"), (0, .string 8), (0, u "name"), (0, .methodref 10 11), (0, .class_ 12), (0, .nameAndType 13 14), (0, u "java/util/Objects"), (0, u "requireNonNull"), (0, u "(Ljava/lang/Object;Ljava/lang/String;)Ljava/lang/Object;"), (0, .string 16), (0, u "policy"), (9, .fieldref 27 28), (0, .class_ 29), (0, .nameAndType 8 30), (0, u "com/example/seatledger/seatledger/model/Volume"), (0, u "Ljava/lang/String;"), (0, .fieldref 27 32), (0, .nameAndType 33 34), (0, u "capacity"), (0, u "J"), (0, .fieldref 27 36), (0, .nameAndType 16 37), (0, u "Lcom/example/seatledger/seatledger/model/Policy;"), (0, .methodref 39 40), (0, .class_ 41), (0, .nameAndType 42 43), (0, u "com/example/seatledger/seatledger/model/Policy"), (0, u "exceedable"), (0, u "()Z"), (18, u "(Ljava/lang/String;JLcom/example/seatledger/seatledger/model/Policy;)V"), (6, u "admitsAnother"), (0, u "(J)Z")] 37

def k9c0 : Code := { maxStack := 4, maxLocals := 5, code := prog_17_method_1_code, exceptionTable := #[], attributes := #[] }
def k9m0 : Method := { name := "<init>", desc := "(Ljava/lang/String;JLcom/example/seatledger/seatledger/model/Policy;)V", sig := { parameters := [(.object "java/lang/String"), .long, (.object "com/example/seatledger/seatledger/model/Policy")], returnType := none }, accessFlags := 1, code := some k9c0 }
def k9c1 : Code := { maxStack := 4, maxLocals := 3, code := prog_17_method_2_code, exceptionTable := #[], attributes := #[] }
def k9m1 : Method := { name := "admitsAnother", desc := "(J)Z", sig := { parameters := [.long], returnType := some .boolean }, accessFlags := 1, code := some k9c1 }
/-- com/example/seatledger/seatledger/model/Volume -/
def k9 : Class := { plain "com/example/seatledger/seatledger/model/Volume" (some 8) with
  accessFlags := 49
  interfaces := #[]
  cf := some (fileOf pool9 27 #[] #[{ accessFlags := 1, nameIndex := 5, descriptorIndex := 62, attributes := #[] }, { accessFlags := 1, nameIndex := 69, descriptorIndex := 70, attributes := #[] }] 49 2 #[] #[{ accessFlags := 18, nameIndex := 8, descriptorIndex := 30, attributes := #[] }, { accessFlags := 18, nameIndex := 33, descriptorIndex := 34, attributes := #[] }, { accessFlags := 18, nameIndex := 16, descriptorIndex := 37, attributes := #[] }])
  fields := #[{ name := "name", type := (.object "java/lang/String"), accessFlags := 18, slot := 0, constantValue := 0 }, { name := "capacity", type := .long, accessFlags := 18, slot := 1, constantValue := 0 }, { name := "policy", type := (.object "com/example/seatledger/seatledger/model/Policy"), accessFlags := 18, slot := 2, constantValue := 0 }]
  methods := #[k9m0, k9m1]
  instanceTypes := #[(.object "java/lang/String"), .long, (.object "com/example/seatledger/seatledger/model/Policy")]
  staticTypes := #[]
  resolved := Array.replicate 108 none
  statics := none }

def pool10 : Array CpInfo := pool [(2, .class_ 4), (1, u "java/lang/CharSequence"), (42, .class_ 48), (0, u "java/lang/CharSequence$1CodePointIterator"), (10, .class_ 60), (0, u "java/lang/CharSequence$1CharIterator"), (5, .class_ 67), (0, u "java/lang/Object")] 63

/-- java/lang/CharSequence -/
def k10 : Class := { plain "java/lang/CharSequence" (some 0) with
  accessFlags := 1537
  interfaces := #[]
  cf := some (fileOf pool10 2 #[.nestMembers #[47, 59]] #[] 1537 66 #[] #[])
  fields := #[]
  methods := #[]
  instanceTypes := #[]
  staticTypes := #[]
  resolved := Array.replicate 131 none
  statics := none }

def pool11 : Array CpInfo := pool [(1, .class_ 2), (0, u "java/lang/constant/ConstantDesc"), (0, .class_ 4), (0, u "java/lang/Object")] 32

/-- java/lang/constant/ConstantDesc -/
def k11 : Class := { plain "java/lang/constant/ConstantDesc" (some 0) with
  accessFlags := 1537
  interfaces := #[]
  cf := some (fileOf pool11 1 #[] #[] 1537 3 #[] #[])
  fields := #[]
  methods := #[]
  instanceTypes := #[]
  staticTypes := #[]
  resolved := Array.replicate 37 none
  statics := none }

def pool12 : Array CpInfo := pool [(2, .class_ 4), (1, u "java/lang/Object"), (0, u "<init>"), (0, u "()V"), (3, .class_ 12), (1, u "java/lang/String"), (0, u "value"), (0, u "[B"), (2, u "coder"), (0, u "B"), (2, u "hash"), (0, u "I"), (2, u "hashIsZero"), (0, u "Z"), (13, u "COMPACT_STRINGS"), (534, .class_ 576), (0, u "java/lang/CharSequence"), (22, u "CASE_INSENSITIVE_ORDER"), (0, u "Ljava/util/Comparator;"), (500, u "serialPersistentFields"), (0, u "[Ljava/io/ObjectStreamField;"), (0, .class_ 1104), (0, u "java/lang/String$CaseInsensitiveComparator"), (1, .class_ 1107), (0, u "java/io/Serializable"), (0, .class_ 1109), (0, u "java/lang/Comparable"), (0, .class_ 1111), (0, u "java/lang/constant/Constable"), (0, .class_ 1113), (0, u "java/lang/constant/ConstantDesc"), (2, u "serialVersionUID"), (0, u "J"), (3, u "REPL"), (0, u "C"), (2, u "LATIN1"), (1, u "UTF16")] 323

def k12m0 : Method := { name := "<init>", desc := "()V", sig := { parameters := [], returnType := none }, accessFlags := 1, code := none }
/-- java/lang/String -/
def k12 : Class := { plain "java/lang/String" (some 0) with
  accessFlags := 49
  interfaces := #[4, 3, 10, 2, 11]
  cf := some (fileOf pool12 10 #[.nestMembers #[1103]] #[{ accessFlags := 1, nameIndex := 5, descriptorIndex := 6, attributes := #[] }] 49 2 #[1106, 1108, 575, 1110, 1112] #[{ accessFlags := 18, nameIndex := 13, descriptorIndex := 14, attributes := #[] }, { accessFlags := 18, nameIndex := 17, descriptorIndex := 18, attributes := #[] }, { accessFlags := 2, nameIndex := 21, descriptorIndex := 22, attributes := #[] }, { accessFlags := 2, nameIndex := 25, descriptorIndex := 26, attributes := #[] }, { accessFlags := 26, nameIndex := 1116, descriptorIndex := 1117, attributes := #[] }, { accessFlags := 24, nameIndex := 40, descriptorIndex := 26, attributes := #[] }, { accessFlags := 26, nameIndex := 1101, descriptorIndex := 1102, attributes := #[] }, { accessFlags := 26, nameIndex := 1121, descriptorIndex := 1122, attributes := #[] }, { accessFlags := 25, nameIndex := 599, descriptorIndex := 600, attributes := #[] }, { accessFlags := 24, nameIndex := 1125, descriptorIndex := 18, attributes := #[] }, { accessFlags := 24, nameIndex := 1127, descriptorIndex := 18, attributes := #[] }])
  fields := #[{ name := "value", type := (.array .byte), accessFlags := 18, slot := 0, constantValue := 0 }, { name := "coder", type := .byte, accessFlags := 18, slot := 1, constantValue := 0 }, { name := "hash", type := .int, accessFlags := 2, slot := 2, constantValue := 0 }, { name := "hashIsZero", type := .boolean, accessFlags := 2, slot := 3, constantValue := 0 }, { name := "serialVersionUID", type := .long, accessFlags := 26, slot := 0, constantValue := 0 }, { name := "COMPACT_STRINGS", type := .boolean, accessFlags := 24, slot := 1, constantValue := 0 }, { name := "serialPersistentFields", type := (.array (.object "java/io/ObjectStreamField")), accessFlags := 26, slot := 2, constantValue := 0 }, { name := "REPL", type := .char, accessFlags := 26, slot := 3, constantValue := 0 }, { name := "CASE_INSENSITIVE_ORDER", type := (.object "java/util/Comparator"), accessFlags := 25, slot := 4, constantValue := 0 }, { name := "LATIN1", type := .byte, accessFlags := 24, slot := 5, constantValue := 0 }, { name := "UTF16", type := .byte, accessFlags := 24, slot := 6, constantValue := 0 }]
  methods := #[k12m0]
  instanceTypes := #[(.array .byte), .byte, .int, .boolean]
  staticTypes := #[.long, .boolean, (.array (.object "java/io/ObjectStreamField")), .char, (.object "java/util/Comparator"), .byte, .byte]
  resolved := Array.replicate 1451 none
  statics := none }

def pool13 : Array CpInfo := pool [(2, .class_ 4), (1, u "java/lang/Object"), (0, u "<init>"), (0, u "()V"), (35, .class_ 44), (1, u "java/util/Objects"), (0, u "requireNonNull"), (48, u "(Ljava/lang/Object;Ljava/lang/String;)Ljava/lang/Object;")] 89

def k13m0 : Method := { name := "<init>", desc := "()V", sig := { parameters := [], returnType := none }, accessFlags := 2, code := none }
def k13c1 : Code := { maxStack := 3, maxLocals := 2, code := jdk_31_method_11_code, exceptionTable := #[], attributes := #[] }
def k13m1 : Method := { name := "requireNonNull", desc := "(Ljava/lang/Object;Ljava/lang/String;)Ljava/lang/Object;", sig := { parameters := [(.object "java/lang/Object"), (.object "java/lang/String")], returnType := some (.object "java/lang/Object") }, accessFlags := 9, code := some k13c1 }
/-- java/util/Objects -/
def k13 : Class := { plain "java/util/Objects" (some 0) with
  accessFlags := 49
  interfaces := #[]
  cf := some (fileOf pool13 42 #[] #[{ accessFlags := 2, nameIndex := 5, descriptorIndex := 6, attributes := #[] }, { accessFlags := 9, nameIndex := 45, descriptorIndex := 94, attributes := #[] }] 49 2 #[] #[])
  fields := #[]
  methods := #[k13m0, k13m1]
  instanceTypes := #[]
  staticTypes := #[]
  resolved := Array.replicate 184 none
  statics := none }

def pool14 : Array CpInfo := pool [(1, u "java/lang/Cloneable"), (0, .class_ 1), (0, u "java/lang/Object"), (0, .class_ 3)] 3

/-- java/lang/Cloneable -/
def k14 : Class := { plain "java/lang/Cloneable" (some 0) with
  accessFlags := 1537
  interfaces := #[]
  cf := some (fileOf pool14 2 #[] #[] 1537 4 #[] #[])
  fields := #[]
  methods := #[]
  instanceTypes := #[]
  staticTypes := #[]
  resolved := Array.replicate 8 none
  statics := none }

/-- the primitive byte -/
def k15 : Class := { plain "byte" none with kind := .primitive 'B', accessFlags := 0x411 }
/-- [B -/
def k16 : Class := { plain "[B" (some 0) with kind := .array 15 .byte, interfaces := #[14, 4], accessFlags := 1041 }

/-- the primitive int -/
def k17 : Class := { plain "int" none with kind := .primitive 'I', accessFlags := 0x411 }
/-- [I -/
def k18 : Class := { plain "[I" (some 0) with kind := .array 17 .int, interfaces := #[14, 4], accessFlags := 1041 }

def heap : Heap := #[{ cls := 7, slots := #[.ref 1, .ref 2, .null], vm := .statics 7 },
  { cls := 7, slots := #[.null, .int 0, .int 0, .null, .int 0], vm := .none },
  { cls := 7, slots := #[.null, .int 1, .int 0, .null, .int 1], vm := .none }]
def classes : Array Class := #[k0, k1, k2, k3, k4, k5, k6, k7, k8, k9, k10, k11, k12, k13, k14, k15, k16, k17, k18]
def interned : List (Array UInt16 × Addr) := []
def slotsUsed : Nat := 13
def theMethod : MethodId := ⟨1, 1⟩
def args0 : Array Value := #[.long 5, .long 3, .int 7]
def aboutOver (below : List Frame) : State where
  vm := { classes := classes, interned := interned.toArray }
  heap := heap
  slotsUsed := slotsUsed
  threads := #[{ frames := .invoking theMethod args0 :: below }]
def below0 : List Frame := [.native { method := ⟨0, 0⟩, args := #[] }]
def about1 : State := aboutOver below0
def p0 : Program := .bare "" "" ""
def e0 : Env := launch0.env 0 0 0
theorem w_frames : about1.frames = Frame.invoking theMethod args0 :: below0 := rfl
set_option maxRecDepth 65536 in
theorem w_args : argsFit about1.vm theMethod args0 = true := by decide +kernel
set_option maxRecDepth 65536 in
theorem w_heap : heapFits about1 = true := by decide +kernel
set_option maxRecDepth 65536 in
theorem w_runnable : about1.curStatus? = some .runnable := by decide +kernel
set_option maxRecDepth 65536 in
theorem w_alone : about1.alone = true := by decide +kernel
set_option maxRecDepth 65536 in
theorem w_named : about1.methodNamed? x = some theMethod := by decide +kernel
set_option maxRecDepth 65536 in
theorem w_hears : about1.hears theMethod below0 = true := by decide +kernel
set_option maxRecDepth 65536 in
theorem w_ripe : about1.ripe theMethod args0 below0 = true := by decide +kernel
theorem w_running : about1.status = .running := rfl
set_option maxRecDepth 65536 in
theorem w_room : about1.hasRoom e0.platform room_1 = true :=
  launch0.hasRoom_least _ room_1 (by decide +kernel) (by decide +kernel) (by decide +kernel) (by decide +kernel) (by decide +kernel) (by decide +kernel)
theorem allAtoms_all (ts : List Jvm.Cond) (a : Array Jvm.Value) (st : Jvm.State) : (allAtoms ts).before a st = ts.all (fun c => c.before a st) := by
  induction ts with
  | nil => rfl
  | cons c t ih =>
    show (Jvm.Cond.and c (allAtoms t)).before a st = _
    rw [Jvm.Cond.before_and, ih, List.all_cons]
def words1 : List Jvm.Cond := Jvm.Cond.code x code maxLocals ret :: tables_1
/-- a 'code' word, met by the world's own term for the bytes: nothing is compared byte by byte -/
theorem code_word {y : MethodName} {bytes : ByteArray} {mx : Nat} {rt : Option FieldType} {a : Array Value} {s : State} {m : MethodId} {meth : Method} {c : Code} (h1 : s.methodNamed? y = some m) (h2 : s.vm.method? m = some meth) (h3 : meth.code = some c) (h4 : c.code = bytes)
    (h5 : (c.maxLocals == mx && c.exceptionTable.isEmpty && decide (c.maxStack ≤ mostOperands) && decide (meth.sig.returnType = rt) && !meth.locks && decide (parseMethodDescriptor y.desc = some meth.sig)) = true) : (Jvm.Cond.code y bytes mx rt).before a s = true := by
  simp only [Bool.and_eq_true, beq_iff_eq, Bool.not_eq_true', decide_eq_true_eq] at h5
  obtain ⟨⟨⟨⟨⟨g1, g2⟩, g3⟩, g4⟩, g5⟩, g6⟩ := h5
  simp [Cond.before, Cond.holds, Cond.value, h1, h2, h3, h4, g1, g2, g3, g4, g5, g6]
def isCode : Jvm.Cond → Bool
  | .code _ _ _ _ => true
  | _ => false
theorem all_split {L : List Jvm.Cond} {P : Jvm.Cond → Bool} (h1 : L.all (fun c => isCode c || P c) = true) (h2 : ∀ c ∈ L.filter isCode, P c = true) : L.all P = true := by
  refine List.all_eq_true.mpr fun c hc => ?_
  have h := List.all_eq_true.mp h1 c hc
  rcases Bool.eq_false_or_eq_true (isCode c) with hi | hi
  · exact h2 c (List.mem_filter.mpr ⟨hc, hi⟩)
  · simpa [hi] using h
set_option maxRecDepth 65536 in
theorem w_c0 : (Jvm.Cond.code x code maxLocals ret).before args0 about1 = true := code_word (m := ⟨1, 1⟩) (meth := k1m1) (c := k1c1) (by decide +kernel) rfl rfl rfl (by decide +kernel)
set_option maxRecDepth 65536 in
theorem w_c1 : (Jvm.Cond.code ({ cls := "com/example/seatledger/seatledger/model/Volume", name := "<init>", desc := "(Ljava/lang/String;JLcom/example/seatledger/seatledger/model/Policy;)V" } : Jvm.MethodName) prog_17_method_1_code (5 : Nat) (Option.none : Option Jvm.ClassFile.FieldType)).before args0 about1 = true := code_word (m := ⟨9, 0⟩) (meth := k9m0) (c := k9c0) (by decide +kernel) rfl rfl rfl (by decide +kernel)
set_option maxRecDepth 65536 in
theorem w_c2 : (Jvm.Cond.code ({ cls := "java/lang/Record", name := "<init>", desc := "()V" } : Jvm.MethodName) jdk_30_method_1_code (1 : Nat) (Option.none : Option Jvm.ClassFile.FieldType)).before args0 about1 = true := code_word (m := ⟨8, 0⟩) (meth := k8m0) (c := k8c0) (by decide +kernel) rfl rfl rfl (by decide +kernel)
set_option maxRecDepth 65536 in
theorem w_c3 : (Jvm.Cond.code ({ cls := "java/lang/Object", name := "<init>", desc := "()V" } : Jvm.MethodName) object_method_1_code (1 : Nat) (Option.none : Option Jvm.ClassFile.FieldType)).before args0 about1 = true := code_word (m := ⟨0, 0⟩) (meth := k0m0) (c := k0c0) (by decide +kernel) rfl rfl rfl (by decide +kernel)
set_option maxRecDepth 65536 in
theorem w_c4 : (Jvm.Cond.code ({ cls := "java/util/Objects", name := "requireNonNull", desc := "(Ljava/lang/Object;Ljava/lang/String;)Ljava/lang/Object;" } : Jvm.MethodName) jdk_31_method_11_code (2 : Nat) (Option.some (Jvm.ClassFile.FieldType.object "java/lang/Object"))).before args0 about1 = true := code_word (m := ⟨13, 1⟩) (meth := k13m1) (c := k13c1) (by decide +kernel) rfl rfl rfl (by decide +kernel)
set_option maxRecDepth 65536 in
theorem w_c5 : (Jvm.Cond.code ({ cls := "com/example/seatledger/seatledger/model/Volume", name := "admitsAnother", desc := "(J)Z" } : Jvm.MethodName) prog_17_method_2_code (3 : Nat) (Option.some Jvm.ClassFile.FieldType.boolean)).before args0 about1 = true := code_word (m := ⟨9, 1⟩) (meth := k9m1) (c := k9c1) (by decide +kernel) rfl rfl rfl (by decide +kernel)
set_option maxRecDepth 65536 in
theorem w_c6 : (Jvm.Cond.code ({ cls := "com/example/seatledger/seatledger/model/Policy", name := "exceedable", desc := "()Z" } : Jvm.MethodName) prog_10_method_5_code (1 : Nat) (Option.some Jvm.ClassFile.FieldType.boolean)).before args0 about1 = true := code_word (m := ⟨7, 0⟩) (meth := k7m0) (c := k7c0) (by decide +kernel) rfl rfl rfl (by decide +kernel)
def codes1 : List Jvm.Cond := [Jvm.Cond.code x code maxLocals ret, Jvm.Cond.code ({ cls := "com/example/seatledger/seatledger/model/Volume", name := "<init>", desc := "(Ljava/lang/String;JLcom/example/seatledger/seatledger/model/Policy;)V" } : Jvm.MethodName) prog_17_method_1_code (5 : Nat) (Option.none : Option Jvm.ClassFile.FieldType), Jvm.Cond.code ({ cls := "java/lang/Record", name := "<init>", desc := "()V" } : Jvm.MethodName) jdk_30_method_1_code (1 : Nat) (Option.none : Option Jvm.ClassFile.FieldType), Jvm.Cond.code ({ cls := "java/lang/Object", name := "<init>", desc := "()V" } : Jvm.MethodName) object_method_1_code (1 : Nat) (Option.none : Option Jvm.ClassFile.FieldType), Jvm.Cond.code ({ cls := "java/util/Objects", name := "requireNonNull", desc := "(Ljava/lang/Object;Ljava/lang/String;)Ljava/lang/Object;" } : Jvm.MethodName) jdk_31_method_11_code (2 : Nat) (Option.some (Jvm.ClassFile.FieldType.object "java/lang/Object")), Jvm.Cond.code ({ cls := "com/example/seatledger/seatledger/model/Volume", name := "admitsAnother", desc := "(J)Z" } : Jvm.MethodName) prog_17_method_2_code (3 : Nat) (Option.some Jvm.ClassFile.FieldType.boolean), Jvm.Cond.code ({ cls := "com/example/seatledger/seatledger/model/Policy", name := "exceedable", desc := "()Z" } : Jvm.MethodName) prog_10_method_5_code (1 : Nat) (Option.some Jvm.ClassFile.FieldType.boolean)]
set_option maxRecDepth 65536 in
theorem codes_eq : words1.filter isCode = codes1 := rfl
theorem w_codes : ∀ c ∈ words1.filter isCode, c.before args0 about1 = true := by
  rw [codes_eq]
  intro c hc
  simp only [codes1, List.mem_cons, List.not_mem_nil, or_false] at hc
  rcases hc with rfl | rfl | rfl | rfl | rfl | rfl | rfl
  · exact w_c0
  · exact w_c1
  · exact w_c2
  · exact w_c3
  · exact w_c4
  · exact w_c5
  · exact w_c6
set_option maxRecDepth 65536 in
theorem w_t1 : (words1.take 24).all (fun c => isCode c || c.before args0 about1) = true := by decide +kernel
set_option maxRecDepth 65536 in
theorem w_t2 : ((words1.drop 24).take 24).all (fun c => isCode c || c.before args0 about1) = true := by decide +kernel
set_option maxRecDepth 65536 in
theorem w_t3 : ((words1.drop 24).drop 24).all (fun c => isCode c || c.before args0 about1) = true := by decide +kernel
theorem w_tables : (allAtoms (Jvm.Cond.code x code maxLocals ret :: tables_1)).before args0 about1 = true := by
  rw [allAtoms_all]
  show words1.all (fun c => c.before args0 about1) = true
  refine all_split ?_ w_codes
  rw [← List.take_append_drop 24 words1, List.all_append, w_t1, ← List.take_append_drop 24 (words1.drop 24), List.all_append, w_t2, w_t3]
  rfl
set_option maxRecDepth 65536 in
theorem w_case : (Jvm.Cond.and given_1 narrow_1).before args0 about1 = true := by decide +kernel
theorem w_applies : (headSpec (Jvm.Cond.code x code maxLocals ret :: tables_1) room_1).applies x e0.platform about1 = true :=
  (Spec.applies_iff w_frames).mpr ⟨w_running, w_runnable, w_alone, w_named, w_hears, w_ripe, w_room, w_tables⟩
theorem atStart : AtStart classFile x code maxLocals ret World_1 tables_1 room_1 Calls_1 rest_1 Pre_1 launch0 p0 e0 about1 theMethod args0 below0 :=
  ⟨lists_1, trivial, launch0.admits_env _ _ _, launch0.least_env, fairChoices_fair.cas, fairChoices_fair.clock, w_frames, w_args, w_heap, w_applies, trivial, trivial, w_case⟩
end start1
theorem witness_1 : WitnessClaimed_1 := ⟨start1.p0, start1.e0, start1.about1, start1.theMethod, start1.args0, start1.below0, start1.atStart⟩
end Jvm.Pilot.@@N@@
