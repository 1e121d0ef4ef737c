import JvmDerived
import JvmDerived.Pilot.@@N@@Statement
import JvmDerived.Pilot.@@N@@Code
set_option linter.unusedVariables false
set_option linter.unusedSimpArgs false
namespace Jvm.RoadKit
open Sem ClassFile Op Lib Jvm.Stand Jvm.Free Jvm.LawKit
section New
variable {p : Program} {l : Launch} {e : Env} {R : Room} {s : State} {m : MethodId} {args : Array Value} {below : List Frame} {meth : Method} {c : Code} {T : State} {locs : List Loc} {cells slots : Nat}
theorem retI (X : Stand p l e R s m args below meth c T locs cells slots) (hx : p.tables.exec = Jvm.exec) {pc : Nat} {Ls : Array Slot} {z : Int32} {rest : List Value} (hret : meth.sig.returnType = some .int) (hd : decode c.code pc = .ok (.ireturn, 1)) {fs : List Frame}
    (hl : ∀ (f : JFrame) (acts : List Action), f.method = m → f.locked = none → f.entered = [] → (doReturn e (T.setTop f) acts (some (.int z))).1 = T.setFrames fs) : Steps p.tables e below (T.setTop (mkF m pc Ls (.int z :: rest))) (T.setFrames fs) := by
  have hm' : T.vm.method? m = some meth := X.method'
  have hn : narrow .int (.int z) = .int z := rfl
  show Steps p.tables e below (T.setTop { method := m, pc := pc, locals := Ls, stack := _ :: rest, locked := none }) _
  jvm_step X.here [X.here.top, hx, hd, hm', hret, hn]
  first | (intro acts; rw [hl _ acts rfl rfl rfl]) | rw [hl _ _ rfl rfl rfl]
  exact Steps.refl _
end New
end Jvm.RoadKit
namespace Jvm.Pilot.@@N@@
open Jvm Jvm.ClassFile Sem Op Lib Jvm.Free Jvm.Stand Jvm.LawKit Jvm.RoadKit Bundle Jvm.Pilot.@@N@@.Jvm.D
section Own
variable {p : Program} {l : Launch} {e : Env} {R : Room} {s : State} {m : MethodId} {args : Array Value} {below : List Frame} {meth : Method} {c : Code} {T T' : State} {locs : List Loc} {cells slots kc ks : Nat} {Q : Option Value → Heap → List Loc → Prop} {g g' : JFrame}
/-- From the frame g over T the body comes to its return, with what Q says of the value, the heap and the places written. -/
def own_Ends (p : Program) (e : Env) (below : List Frame) (s : State) (Q : Option Value → Heap → List Loc → Prop) (kc ks : Nat) (T : State) (g : JFrame) : Prop :=
  ∃ s₂ o, Steps p.tables e below (T.setTop g) s₂ ∧ s₂.status = .running ∧ Ended s₂ below o ∧ ∃ v L, o = .returned v ∧ Q v s₂.heap L ∧ FrameEnd s o s₂ L kc ks
theorem own_st (h : ∀ target, Steps p.tables e below (T'.setTop g') target → Steps p.tables e below (T.setTop g) target) (k : own_Ends p e below s Q kc ks T' g') : own_Ends p e below s Q kc ks T g := by
  obtain ⟨s₂, o, h1, r⟩ := k
  exact ⟨s₂, o, h _ h1, r⟩
theorem own_tr (h : Steps p.tables e below (T.setTop g) (T'.setTop g')) (k : own_Ends p e below s Q kc ks T' g') : own_Ends p e below s Q kc ks T g :=
  own_st (fun _ q => h.trans q) k
theorem own_retN (X : Stand p l e R s m args below meth c T locs cells slots) (hx : p.tables.exec = Jvm.exec) {pc : Nat} {Ls : Array Slot} {z w : Int32} {t : FieldType} {rest : List Value} (hret : meth.sig.returnType = some t) (ht : t = .boolean ∨ t = .byte ∨ t = .char ∨ t = .short)
    (hd : decode c.code pc = .ok (.ireturn, 1)) (hlk : meth.locks = false) (hc : cells ≤ kc) (hs : slots ≤ ks) (hw : nar t z = w) (hQ : Q (some (.int w)) T.heap locs) : own_Ends p e below s Q kc ks T (mkF m pc Ls (.int z :: rest)) := by
  obtain ⟨fs, hr, hrun, hended, hW, hsame⟩ := X.leave (v := some (.int (nar t z))) (fun h => by rw [hret] at h; cases h) hlk
  subst hw
  exact ⟨_, _, retN X hx hret ht hd hr, hrun, hended, _, _, rfl, hQ, ⟨_, rfl⟩, hW, hsame.mono hc hs⟩
theorem own_retI (X : Stand p l e R s m args below meth c T locs cells slots) (hx : p.tables.exec = Jvm.exec) {pc : Nat} {Ls : Array Slot} {z : Int32} {rest : List Value} (hret : meth.sig.returnType = some .int)
    (hd : decode c.code pc = .ok (.ireturn, 1)) (hlk : meth.locks = false) (hc : cells ≤ kc) (hs : slots ≤ ks) (hQ : Q (some (.int z)) T.heap locs) : own_Ends p e below s Q kc ks T (mkF m pc Ls (.int z :: rest)) := by
  obtain ⟨fs, hr, hrun, hended, hW, hsame⟩ := X.leave (v := some (.int z)) (fun h => by rw [hret] at h; cases h) hlk
  exact ⟨_, _, retI X hx hret hd hr, hrun, hended, _, _, rfl, hQ, ⟨_, rfl⟩, hW, hsame.mono hc hs⟩
theorem own_retA (X : Stand p l e R s m args below meth c T locs cells slots) (hx : p.tables.exec = Jvm.exec) {pc : Nat} {Ls : Array Slot} {w : Value} {t : FieldType} {rest : List Value} (hret : meth.sig.returnType = some t) (ht : t.isReference = true) (hr : w.isRef = true) (hn : narrow t w = w)
    (hd : decode c.code pc = .ok (.areturn, 1)) (hlk : meth.locks = false) (hc : cells ≤ kc) (hs : slots ≤ ks) (hQ : Q (some w) T.heap locs) : own_Ends p e below s Q kc ks T (mkF m pc Ls (w :: rest)) := by
  obtain ⟨fs, hl, hrun, hended, hW, hsame⟩ := X.leave (v := some w) (fun h => by rw [hret] at h; cases h) hlk
  exact ⟨_, _, retOut X hx hret hn (Or.inr (Or.inr (Or.inr (Or.inr ⟨rfl, ht, hr⟩)))) hd hl, hrun, hended, _, _, rfl, hQ, ⟨_, rfl⟩, hW, hsame.mono hc hs⟩
theorem own_retV (X : Stand p l e R s m args below meth c T locs cells slots) (hx : p.tables.exec = Jvm.exec) {pc : Nat} {Ls : Array Slot} (hret : meth.sig.returnType = none)
    (hd : decode c.code pc = .ok (.return_, 1)) (hlk : meth.locks = false) (hc : cells ≤ kc) (hs : slots ≤ ks) (hQ : Q none T.heap locs) : own_Ends p e below s Q kc ks T (mkF m pc Ls []) := by
  obtain ⟨fs, hr, hrun, hended, hW, hsame⟩ := X.leave (v := none) (fun _ => rfl) hlk
  exact ⟨_, _, X.returnOut hx hret hd hr, hrun, hended, _, _, rfl, hQ, ⟨_, rfl⟩, hW, hsame.mono hc hs⟩
end Own
section OwnFacts
variable {args : Array Value} {Z : State} {t t2 : Term} {x y : Addr} {C n d : String} {k : Int32}
theorem own_fldI (ev : t.eval args Z none [] Z = some (.ref x)) (h : (Cond.eq (.field t C n d) (.int k)).value args Z none Z [] = some true) : Fld Z Z.heap x C n d (.int k) := by
  obtain ⟨u, w, h1, h2, q, -⟩ := cmp_v (Or.inl h)
  cases (Term.int_eval k).symm.trans h2
  cases u <;> simp [Cond.value, h1, Term.int_eval] at h
  subst h
  exact Fld.start (by rw [← fld_at ev]; exact h1)
theorem own_fldN (ev : t.eval args Z none [] Z = some (.ref x)) (h : (Cond.eq (.field t C n d) .null).value args Z none Z [] = some true) : Fld Z Z.heap x C n d .null :=
  Fld.start (by rw [← fld_at ev]; exact null_v h)
theorem own_fldR (ev : t.eval args Z none [] Z = some (.ref x)) (ev2 : t2.eval args Z none [] Z = some (.ref y)) (h : (Cond.eq (.field t C n d) t2).value args Z none Z [] = some true) : Fld Z Z.heap x C n d (.ref y) := by
  obtain ⟨u, w, h1, h2, -, -⟩ := cmp_v (Or.inl h)
  cases ev2.symm.trans h2
  cases u <;> simp [Cond.value, h1, ev2] at h
  subst h
  exact Fld.start (by rw [← fld_at ev]; exact h1)
end OwnFacts
section OwnArr
variable {p : Program} {l : Launch} {e : Env} {R : Room} {s : State} {m : MethodId} {args : Array Value} {below : List Frame} {meth : Method} {c : Code} {T : State} {locs : List Loc} {cells slots : Nat} {Z : State} {h : Heap} {a y : Addr} {k : ClassId} {C : String} {z j : Int32} {vs : List Value}
theorem own_fill (X : Stand p l e R s m args below meth c T locs cells slots) (hx : p.tables.exec = Jvm.exec) (hZ : Z.Warmed39 s.vm) (eT : T.heap = h) (V : Arv Z h a k (.object C) z vs .null) (Ov : Ovr Z k C) (Iy : Ins Z h y C true) (i : Nat) (hj : j.toNatClampNeg = i) (hi : i < vs.length) (hjz : ¬ j < 0 ∧ j < z)
    {g : JFrame} (hg : g.method = m) {rest : List Value} (hs : g.stack = .ref y :: .int j :: .ref a :: rest) (hd : decode c.code g.pc = .ok (.aastore, 1)) :
    ∃ T' h', Stand p l e R s m args below meth c T' (locs ++ [⟨a, j.toNatClampNeg⟩]) cells slots ∧ T'.heap = h' ∧ Wr h h' a j.toNatClampNeg (.ref y) ∧ Arv Z h' a k (.object C) z (vs.set i (.ref y)) .null ∧
      ∀ target, Steps p.tables e below (T'.setTop { g with pc := g.pc + 1, stack := rest }) target → Steps p.tables e below (T.setTop g) target := by
  obtain ⟨cl, Ar, q, S, M, H, G⟩ := V
  obtain ⟨T', h', X', e', W, st⟩ := stR X hx hZ eT Ar (j := j) (inb_of S hjz) rfl (Sto.ofV Ar q Ov Iy) hg hs hd
  exact ⟨T', h', X', e', W, Arv.set Ar q S M H G rfl W i hj hi, st⟩
end OwnArr
def own_W (Z : State) (rQ rB rS rO : Addr) : Prop := Sta Z Z.heap "com/example/tessera/tessera/interpreter/CollectionValue$Kind" "SEQUENCE" "Lcom/example/tessera/tessera/interpreter/CollectionValue$Kind;" (.ref rQ) ∧ Exa Z Z.heap rQ "com/example/tessera/tessera/interpreter/CollectionValue$Kind" ∧ Sta Z Z.heap "com/example/tessera/tessera/interpreter/CollectionValue$Kind" "BAG" "Lcom/example/tessera/tessera/interpreter/CollectionValue$Kind;" (.ref rB) ∧ Exa Z Z.heap rB "com/example/tessera/tessera/interpreter/CollectionValue$Kind" ∧ Sta Z Z.heap "com/example/tessera/tessera/interpreter/CollectionValue$Kind" "SET" "Lcom/example/tessera/tessera/interpreter/CollectionValue$Kind;" (.ref rS) ∧ Exa Z Z.heap rS "com/example/tessera/tessera/interpreter/CollectionValue$Kind" ∧ Sta Z Z.heap "com/example/tessera/tessera/interpreter/CollectionValue$Kind" "ORDERED_SET" "Lcom/example/tessera/tessera/interpreter/CollectionValue$Kind;" (.ref rO) ∧ Exa Z Z.heap rO "com/example/tessera/tessera/interpreter/CollectionValue$Kind" ∧ Fld Z Z.heap rQ "com/example/tessera/tessera/interpreter/CollectionValue$Kind" "unique" "Z" (.int (0 : Int32)) ∧ Fld Z Z.heap rQ "com/example/tessera/tessera/interpreter/CollectionValue$Kind" "ordered" "Z" (.int (1 : Int32)) ∧ Fld Z Z.heap rB "com/example/tessera/tessera/interpreter/CollectionValue$Kind" "unique" "Z" (.int (0 : Int32)) ∧ Fld Z Z.heap rS "com/example/tessera/tessera/interpreter/CollectionValue$Kind" "unique" "Z" (.int (1 : Int32)) ∧ Fld Z Z.heap rO "com/example/tessera/tessera/interpreter/CollectionValue$Kind" "unique" "Z" (.int (1 : Int32)) ∧ Fld Z Z.heap rO "com/example/tessera/tessera/interpreter/CollectionValue$Kind" "ordered" "Z" (.int (1 : Int32)) ∧ Fld Z Z.heap rB "com/example/tessera/tessera/interpreter/CollectionValue$Kind" "ordered" "Z" (.int (0 : Int32)) ∧ Fld Z Z.heap rS "com/example/tessera/tessera/interpreter/CollectionValue$Kind" "ordered" "Z" (.int (0 : Int32))
theorem pd_0 : parseMethodDescriptor "()Lcom/example/tessera/tessera/interpreter/CollectionValue$Kind;" = some ⟨[], some (.object "com/example/tessera/tessera/interpreter/CollectionValue$Kind")⟩ := by decide +kernel
theorem pd_1 : parseMethodDescriptor "()Z" = some ⟨[], some .boolean⟩ := by decide +kernel
theorem d1_0 : decode prog_50_method_8_code 0 = .ok (.aload_n 0, 1) := by decide +kernel
theorem d1_1 : decode prog_50_method_8_code 1 = .ok (.getfield 43, 3) := by decide +kernel
theorem d1_4 : decode prog_50_method_8_code 4 = .ok (.ifCond .eq 9, 3) := by decide +kernel
theorem d1_7 : decode prog_50_method_8_code 7 = .ok (.getstatic 7, 3) := by decide +kernel
theorem d1_10 : decode prog_50_method_8_code 10 = .ok (.goto 6, 3) := by decide +kernel
theorem d1_13 : decode prog_50_method_8_code 13 = .ok (.getstatic 3, 3) := by decide +kernel
theorem d1_16 : decode prog_50_method_8_code 16 = .ok (.areturn, 1) := by decide +kernel
theorem pn_0 : plainName "com/example/tessera/tessera/interpreter/CollectionValue$Kind" = true := by first | (simp [plainName, overriddenIn]; done) | decide +kernel
theorem ef_rm_ordered (m : MethodId) (x0 : Addr) : entryFrame m #[(.ref x0)] 1 = mkF m 0 #[.val (.ref x0)] [] := by first | (simp [entryFrame, mkF, argsToLocals, Value.category]; done) | rfl
def Q_rm_ordered (Z : State) (a1 : Addr) (w : Int32) (rQ : Addr) (rB : Addr) (rS : Addr) (rO : Addr) (h0 : Heap) (n0 : Nat) (v : Option Value) (h : Heap) (L : List Loc) : Prop := v = some (.ref (if w = 0 then rQ else rO)) ∧ Fr n0 L ∧ h = h0
set_option maxRecDepth 65536 in
set_option maxHeartbeats 40000000 in
theorem rm_ordered (l : Launch) (Z : State) (a0 : Array Value) (hw : ∀ d ∈ tables_1, d.before a0 Z = true) (ws : List Jvm.Cond) (a1 : Addr) (w : Int32) (rQ : Addr) (rB : Addr) (rS : Addr) (rO : Addr) (h0 : Heap) (n0 : Nat) (O0 : Old Z n0 h0) (F1 : Fld Z h0 a1 "com/example/tessera/tessera/interpreter/CollectionValue$Kind" "unique" "Z" (.int w)) (G : own_W Z rQ rB rS rO) :
    MetFree l (⟨"com/example/tessera/tessera/interpreter/CollectionValue$Kind", "ordered", "()Lcom/example/tessera/tessera/interpreter/CollectionValue$Kind;"⟩ : MethodName) (head1 (Jvm.Cond.code (⟨"com/example/tessera/tessera/interpreter/CollectionValue$Kind", "ordered", "()Lcom/example/tessera/tessera/interpreter/CollectionValue$Kind;"⟩ : MethodName) prog_50_method_8_code 1 (some (.object "com/example/tessera/tessera/interpreter/CollectionValue$Kind")) :: ws) ({ frames := 0, cells := 0, slots := 0, locals := 0 } : Room)) (fun a U => a = #[(.ref a1)] ∧ Z.Warmed39 U.vm ∧ U.heap = h0) (fun _ _ _ _ _ => True) (fun _ U o U' => ∃ v L, o = .returned v ∧ Q_rm_ordered Z a1 w rQ rB rS rO h0 n0 v U'.heap L ∧ FrameEnd U o U' L ({ frames := 0, cells := 0, slots := 0, locals := 0 } : Room).cells ({ frames := 0, cells := 0, slots := 0, locals := 0 } : Room).slots) := by
  refine MetFree.of_bodySF (plainFor_of_name pn_0) hisR ?_
  intro p e s m args below meth c s₁ Bd hml0 hP hK
  obtain ⟨rfl, hZ, hh⟩ := hP
  have hx := Bd.exec
  have hby := Bd.bytes
  have hml : c.maxLocals = 1 := hml0
  have hown : s.vm.findClass "com/example/tessera/tessera/interpreter/CollectionValue$Kind" = some m.cls := findClass_of_methodNamed Bd.named
  have hnm := (name_of_methodNamed Bd.named Bd.method).1
  have hlk := BodyLoose.notSynchronized Bd
  have X0 : Stand p l e ({ frames := 0, cells := 0, slots := 0, locals := 0 } : Room) s m #[(.ref a1)] below meth c s₁ [] 0 0 := Stand.of_body Bd
  have e0 : s₁.heap = h0 := by rw [← hh, Bd.state]; rfl
  have N0 := Fr.nil n0
  show own_Ends p e below s (Q_rm_ordered Z a1 w rQ rB rS rO h0 n0) ({ frames := 0, cells := 0, slots := 0, locals := 0 } : Room).cells ({ frames := 0, cells := 0, slots := 0, locals := 0 } : Room).slots s₁ (entryFrame m #[(.ref a1)] 1)
  rw [ef_rm_ordered m a1]
  have G' := G
  obtain ⟨S_Q, E_Q, S_B, E_B, S_S, E_S, S_O, E_O, F_Q_unique, F_Q_ordered, F_B_unique, F_S_unique, F_O_unique, F_O_ordered, F_B_ordered, F_S_ordered⟩ := G'
  show own_Ends _ _ _ _ _ _ _ s₁ (mkF m 0 #[.val (.ref a1)] [])
  refine own_st (fun _ kq => XS.aloadN X0.here hx rfl (hb hby d1_0) rfl rfl kq) ?_
  show own_Ends _ _ _ _ _ _ _ s₁ (mkF m 1 #[.val (.ref a1)] [(.ref a1)])
  obtain ⟨T1, X1, e1, st1⟩ := getF X0 hx hZ hown (host := "") (Or.inl (hw _ (List.mem_of_getElem? (i := 8) rfl))) Via.refl e0 F1 (g := (mkF m 1 #[.val (.ref a1)] [(.ref a1)])) rfl rfl (hb hby d1_1)
  refine own_st st1 ?_
  show own_Ends _ _ _ _ _ _ _ T1 (mkF m 4 #[.val (.ref a1)] [(.int w)])
  by_cases hc4 : w = (0 : Int32)
  · skip
    refine own_st (fun _ kq => XS.ifYes X1.here hx rfl (pc0 := 4) (pc' := 13) rfl (hb hby d1_4) rfl ((if0 _ _).trans (teq hc4).1) (by decide) (by decide) kq) ?_
    show own_Ends _ _ _ _ _ _ _ T1 (mkF m 13 #[.val (.ref a1)] [])
    obtain ⟨T2, X2, e2, st2⟩ := getS2 X1 hx hZ hown (host := "") (Or.inl (hw _ (List.mem_of_getElem? (i := 10) rfl))) Via.refl e1 (S_Q.ext O0.2) (g := (mkF m 13 #[.val (.ref a1)] [])) rfl (hb hby d1_13)
    refine own_st st2 ?_
    show own_Ends _ _ _ _ _ _ _ T2 (mkF m 16 #[.val (.ref a1)] [(.ref rQ)])
    refine own_retA X2 hx Bd.returns rfl rfl rfl (hb hby d1_16) hlk (by decide) (by decide) ?_
    show Q_rm_ordered Z a1 w rQ rB rS rO h0 n0 _ T2.heap _
    rw [e2]
    exact ⟨by simp [hc4], N0, rfl⟩
  · skip
    refine own_st (fun _ kq => XS.ifNo X1.here hx rfl (hb hby d1_4) rfl ((if0 _ _).trans (feq hc4).1) kq) ?_
    show own_Ends _ _ _ _ _ _ _ T1 (mkF m 7 #[.val (.ref a1)] [])
    obtain ⟨T3, X3, e3, st3⟩ := getS2 X1 hx hZ hown (host := "") (Or.inl (hw _ (List.mem_of_getElem? (i := 29) rfl))) Via.refl e1 (S_O.ext O0.2) (g := (mkF m 7 #[.val (.ref a1)] [])) rfl (hb hby d1_7)
    refine own_st st3 ?_
    show own_Ends _ _ _ _ _ _ _ T3 (mkF m 10 #[.val (.ref a1)] [(.ref rO)])
    refine own_st (fun _ kq => XS.goto X3.here hx rfl (pc0 := 10) (pc' := 16) rfl (hb hby d1_10) (by decide) (by decide) kq) ?_
    show own_Ends _ _ _ _ _ _ _ T3 (mkF m 16 #[.val (.ref a1)] [(.ref rO)])
    refine own_retA X3 hx Bd.returns rfl rfl rfl (hb hby d1_16) hlk (by decide) (by decide) ?_
    show Q_rm_ordered Z a1 w rQ rB rS rO h0 n0 _ T3.heap _
    rw [e3]
    exact ⟨by simp [hc4], N0, rfl⟩
theorem d2_0 : decode prog_50_method_5_code 0 = .ok (.aload_n 0, 1) := by decide +kernel
theorem d2_1 : decode prog_50_method_5_code 1 = .ok (.getfield 39, 3) := by decide +kernel
theorem d2_4 : decode prog_50_method_5_code 4 = .ok (.ireturn, 1) := by decide +kernel
theorem ef_rm_iso (m : MethodId) (x0 : Addr) : entryFrame m #[(.ref x0)] 1 = mkF m 0 #[.val (.ref x0)] [] := by first | (simp [entryFrame, mkF, argsToLocals, Value.category]; done) | rfl
def Q_rm_iso (Z : State) (a1 : Addr) (w : Int32) (rQ : Addr) (rB : Addr) (rS : Addr) (rO : Addr) (h0 : Heap) (n0 : Nat) (v : Option Value) (h : Heap) (L : List Loc) : Prop := v = some (.int (nar .boolean w)) ∧ Fr n0 L ∧ h = h0
set_option maxRecDepth 65536 in
set_option maxHeartbeats 40000000 in
theorem rm_iso (l : Launch) (Z : State) (a0 : Array Value) (hw : ∀ d ∈ tables_1, d.before a0 Z = true) (ws : List Jvm.Cond) (a1 : Addr) (w : Int32) (rQ : Addr) (rB : Addr) (rS : Addr) (rO : Addr) (h0 : Heap) (n0 : Nat) (O0 : Old Z n0 h0) (F1 : Fld Z h0 a1 "com/example/tessera/tessera/interpreter/CollectionValue$Kind" "ordered" "Z" (.int w)) (G : own_W Z rQ rB rS rO) :
    MetFree l (⟨"com/example/tessera/tessera/interpreter/CollectionValue$Kind", "isOrdered", "()Z"⟩ : MethodName) (head1 (Jvm.Cond.code (⟨"com/example/tessera/tessera/interpreter/CollectionValue$Kind", "isOrdered", "()Z"⟩ : MethodName) prog_50_method_5_code 1 (some .boolean) :: ws) ({ frames := 0, cells := 0, slots := 0, locals := 0 } : Room)) (fun a U => a = #[(.ref a1)] ∧ Z.Warmed39 U.vm ∧ U.heap = h0) (fun _ _ _ _ _ => True) (fun _ U o U' => ∃ v L, o = .returned v ∧ Q_rm_iso Z a1 w rQ rB rS rO h0 n0 v U'.heap L ∧ FrameEnd U o U' L ({ frames := 0, cells := 0, slots := 0, locals := 0 } : Room).cells ({ frames := 0, cells := 0, slots := 0, locals := 0 } : Room).slots) := by
  refine MetFree.of_bodySF (plainFor_of_name pn_0) hisR ?_
  intro p e s m args below meth c s₁ Bd hml0 hP hK
  obtain ⟨rfl, hZ, hh⟩ := hP
  have hx := Bd.exec
  have hby := Bd.bytes
  have hml : c.maxLocals = 1 := hml0
  have hown : s.vm.findClass "com/example/tessera/tessera/interpreter/CollectionValue$Kind" = some m.cls := findClass_of_methodNamed Bd.named
  have hnm := (name_of_methodNamed Bd.named Bd.method).1
  have hlk := BodyLoose.notSynchronized Bd
  have X0 : Stand p l e ({ frames := 0, cells := 0, slots := 0, locals := 0 } : Room) s m #[(.ref a1)] below meth c s₁ [] 0 0 := Stand.of_body Bd
  have e0 : s₁.heap = h0 := by rw [← hh, Bd.state]; rfl
  have N0 := Fr.nil n0
  show own_Ends p e below s (Q_rm_iso Z a1 w rQ rB rS rO h0 n0) ({ frames := 0, cells := 0, slots := 0, locals := 0 } : Room).cells ({ frames := 0, cells := 0, slots := 0, locals := 0 } : Room).slots s₁ (entryFrame m #[(.ref a1)] 1)
  rw [ef_rm_iso m a1]
  have G' := G
  obtain ⟨S_Q, E_Q, S_B, E_B, S_S, E_S, S_O, E_O, F_Q_unique, F_Q_ordered, F_B_unique, F_S_unique, F_O_unique, F_O_ordered, F_B_ordered, F_S_ordered⟩ := G'
  show own_Ends _ _ _ _ _ _ _ s₁ (mkF m 0 #[.val (.ref a1)] [])
  refine own_st (fun _ kq => XS.aloadN X0.here hx rfl (hb hby d2_0) rfl rfl kq) ?_
  show own_Ends _ _ _ _ _ _ _ s₁ (mkF m 1 #[.val (.ref a1)] [(.ref a1)])
  obtain ⟨T1, X1, e1, st1⟩ := getF X0 hx hZ hown (host := "") (Or.inl (hw _ (List.mem_of_getElem? (i := 16) rfl))) Via.refl e0 F1 (g := (mkF m 1 #[.val (.ref a1)] [(.ref a1)])) rfl rfl (hb hby d2_1)
  refine own_st st1 ?_
  show own_Ends _ _ _ _ _ _ _ T1 (mkF m 4 #[.val (.ref a1)] [(.int w)])
  refine own_retN X1 hx (t := .boolean) Bd.returns (by simp) (hb hby d2_4) hlk (by decide) (by decide) (w := (nar .boolean w)) rfl ?_
  show Q_rm_iso Z a1 w rQ rB rS rO h0 n0 _ T1.heap _
  rw [e1]
  exact ⟨rfl, N0, rfl⟩
theorem d3_0 : decode prog_50_method_6_code 0 = .ok (.aload_n 0, 1) := by decide +kernel
theorem d3_1 : decode prog_50_method_6_code 1 = .ok (.getfield 43, 3) := by decide +kernel
theorem d3_4 : decode prog_50_method_6_code 4 = .ok (.ireturn, 1) := by decide +kernel
theorem ef_rm_isu (m : MethodId) (x0 : Addr) : entryFrame m #[(.ref x0)] 1 = mkF m 0 #[.val (.ref x0)] [] := by first | (simp [entryFrame, mkF, argsToLocals, Value.category]; done) | rfl
def Q_rm_isu (Z : State) (a1 : Addr) (w : Int32) (rQ : Addr) (rB : Addr) (rS : Addr) (rO : Addr) (h0 : Heap) (n0 : Nat) (v : Option Value) (h : Heap) (L : List Loc) : Prop := v = some (.int (nar .boolean w)) ∧ Fr n0 L ∧ h = h0
set_option maxRecDepth 65536 in
set_option maxHeartbeats 40000000 in
theorem rm_isu (l : Launch) (Z : State) (a0 : Array Value) (hw : ∀ d ∈ tables_1, d.before a0 Z = true) (ws : List Jvm.Cond) (a1 : Addr) (w : Int32) (rQ : Addr) (rB : Addr) (rS : Addr) (rO : Addr) (h0 : Heap) (n0 : Nat) (O0 : Old Z n0 h0) (F1 : Fld Z h0 a1 "com/example/tessera/tessera/interpreter/CollectionValue$Kind" "unique" "Z" (.int w)) (G : own_W Z rQ rB rS rO) :
    MetFree l (⟨"com/example/tessera/tessera/interpreter/CollectionValue$Kind", "isUnique", "()Z"⟩ : MethodName) (head1 (Jvm.Cond.code (⟨"com/example/tessera/tessera/interpreter/CollectionValue$Kind", "isUnique", "()Z"⟩ : MethodName) prog_50_method_6_code 1 (some .boolean) :: ws) ({ frames := 0, cells := 0, slots := 0, locals := 0 } : Room)) (fun a U => a = #[(.ref a1)] ∧ Z.Warmed39 U.vm ∧ U.heap = h0) (fun _ _ _ _ _ => True) (fun _ U o U' => ∃ v L, o = .returned v ∧ Q_rm_isu Z a1 w rQ rB rS rO h0 n0 v U'.heap L ∧ FrameEnd U o U' L ({ frames := 0, cells := 0, slots := 0, locals := 0 } : Room).cells ({ frames := 0, cells := 0, slots := 0, locals := 0 } : Room).slots) := by
  refine MetFree.of_bodySF (plainFor_of_name pn_0) hisR ?_
  intro p e s m args below meth c s₁ Bd hml0 hP hK
  obtain ⟨rfl, hZ, hh⟩ := hP
  have hx := Bd.exec
  have hby := Bd.bytes
  have hml : c.maxLocals = 1 := hml0
  have hown : s.vm.findClass "com/example/tessera/tessera/interpreter/CollectionValue$Kind" = some m.cls := findClass_of_methodNamed Bd.named
  have hnm := (name_of_methodNamed Bd.named Bd.method).1
  have hlk := BodyLoose.notSynchronized Bd
  have X0 : Stand p l e ({ frames := 0, cells := 0, slots := 0, locals := 0 } : Room) s m #[(.ref a1)] below meth c s₁ [] 0 0 := Stand.of_body Bd
  have e0 : s₁.heap = h0 := by rw [← hh, Bd.state]; rfl
  have N0 := Fr.nil n0
  show own_Ends p e below s (Q_rm_isu Z a1 w rQ rB rS rO h0 n0) ({ frames := 0, cells := 0, slots := 0, locals := 0 } : Room).cells ({ frames := 0, cells := 0, slots := 0, locals := 0 } : Room).slots s₁ (entryFrame m #[(.ref a1)] 1)
  rw [ef_rm_isu m a1]
  have G' := G
  obtain ⟨S_Q, E_Q, S_B, E_B, S_S, E_S, S_O, E_O, F_Q_unique, F_Q_ordered, F_B_unique, F_S_unique, F_O_unique, F_O_ordered, F_B_ordered, F_S_ordered⟩ := G'
  show own_Ends _ _ _ _ _ _ _ s₁ (mkF m 0 #[.val (.ref a1)] [])
  refine own_st (fun _ kq => XS.aloadN X0.here hx rfl (hb hby d3_0) rfl rfl kq) ?_
  show own_Ends _ _ _ _ _ _ _ s₁ (mkF m 1 #[.val (.ref a1)] [(.ref a1)])
  obtain ⟨T1, X1, e1, st1⟩ := getF X0 hx hZ hown (host := "") (Or.inl (hw _ (List.mem_of_getElem? (i := 8) rfl))) Via.refl e0 F1 (g := (mkF m 1 #[.val (.ref a1)] [(.ref a1)])) rfl rfl (hb hby d3_1)
  refine own_st st1 ?_
  show own_Ends _ _ _ _ _ _ _ T1 (mkF m 4 #[.val (.ref a1)] [(.int w)])
  refine own_retN X1 hx (t := .boolean) Bd.returns (by simp) (hb hby d3_4) hlk (by decide) (by decide) (w := (nar .boolean w)) rfl ?_
  show Q_rm_isu Z a1 w rQ rB rS rO h0 n0 _ T1.heap _
  rw [e1]
  exact ⟨rfl, N0, rfl⟩
theorem pn_1 : plainName "com/example/tessera/tessera/interpreter/KindOrderedPinLaw" = true := by first | (simp [plainName, overriddenIn]; done) | decide +kernel
theorem ef_rm_law (m : MethodId) (x0 : Int32) : entryFrame m #[(.int x0)] maxLocals = mkF m 0 #[.val (.int x0), .unset, .unset, .unset, .unset] [] := by first | (simp [entryFrame, mkF, argsToLocals, Value.category, maxLocals]; done) | rfl
def Q_rm_law (Z : State) (p1 : Int32) (rQ : Addr) (rB : Addr) (rS : Addr) (rO : Addr) (h0 : Heap) (n0 : Nat) (v : Option Value) (h : Heap) (L : List Loc) : Prop := v = some (.int 1) ∧ Fr n0 L
set_option maxRecDepth 65536 in
set_option maxHeartbeats 40000000 in
theorem rm_law (l : Launch) (Z : State) (a0 : Array Value) (hw : ∀ d ∈ tables_1, d.before a0 Z = true) (ws : List Jvm.Cond) (p1 : Int32) (rQ : Addr) (rB : Addr) (rS : Addr) (rO : Addr) (h0 : Heap) (n0 : Nat) (O0 : Old Z n0 h0) (G : own_W Z rQ rB rS rO) :
    MetFree l x (head1 (Jvm.Cond.code x code maxLocals ret :: ws) room_1) (fun a U => a = #[(.int p1)] ∧ Z.Warmed39 U.vm ∧ U.heap = h0) (fun _ _ _ _ _ => True) (fun _ U o U' => ∃ v L, o = .returned v ∧ Q_rm_law Z p1 rQ rB rS rO h0 n0 v U'.heap L ∧ FrameEnd U o U' L room_1.cells room_1.slots) := by
  refine MetFree.of_bodySF (plainFor_of_name pn_1) hisR ?_
  intro p e s m args below meth c s₁ Bd hml0 hP hK
  obtain ⟨rfl, hZ, hh⟩ := hP
  have hx := Bd.exec
  have hby := Bd.bytes
  have hml : c.maxLocals = 5 := hml0
  have hown : s.vm.findClass "com/example/tessera/tessera/interpreter/KindOrderedPinLaw" = some m.cls := findClass_of_methodNamed Bd.named
  have hnm := (name_of_methodNamed Bd.named Bd.method).1
  have hlk := BodyLoose.notSynchronized Bd
  have X0 : Stand p l e room_1 s m #[(.int p1)] below meth c s₁ [] 0 0 := Stand.of_body Bd
  have e0 : s₁.heap = h0 := by rw [← hh, Bd.state]; rfl
  have N0 := Fr.nil n0
  show own_Ends p e below s (Q_rm_law Z p1 rQ rB rS rO h0 n0) room_1.cells room_1.slots s₁ (entryFrame m #[(.int p1)] maxLocals)
  rw [ef_rm_law m p1]
  have G' := G
  obtain ⟨S_Q, E_Q, S_B, E_B, S_S, E_S, S_O, E_O, F_Q_unique, F_Q_ordered, F_B_unique, F_S_unique, F_O_unique, F_O_ordered, F_B_ordered, F_S_ordered⟩ := G'
  show own_Ends _ _ _ _ _ _ _ s₁ (mkF m 0 #[.val (.int p1), .unset, .unset, .unset, .unset] [])
  refine own_st (fun _ kq => XS.iloadN X0.here hx rfl (hb hby at_0) rfl kq) ?_
  show own_Ends _ _ _ _ _ _ _ s₁ (mkF m 1 #[.val (.int p1), .unset, .unset, .unset, .unset] [(.int p1)])
  refine own_st (fun _ kq => XS.iconst X0.here hx rfl (hb hby at_1) kq) ?_
  show own_Ends _ _ _ _ _ _ _ s₁ (mkF m 2 #[.val (.int p1), .unset, .unset, .unset, .unset] [(.int (3 : Int32)), (.int p1)])
  refine own_st (fun _ kq => XS.iand X0.here hx rfl (hb hby at_2) rfl kq) ?_
  show own_Ends _ _ _ _ _ _ _ s₁ (mkF m 3 #[.val (.int p1), .unset, .unset, .unset, .unset] [(.int (p1 &&& (3 : Int32)))])
  refine own_st (fun _ kq => XS.istoreN X0.here hx rfl (hb hby at_3) rfl (l' := #[.val (.int p1), .val (.int (p1 &&& (3 : Int32))), .unset, .unset, .unset]) rfl kq) ?_
  show own_Ends _ _ _ _ _ _ _ s₁ (mkF m 4 #[.val (.int p1), .val (.int (p1 &&& (3 : Int32))), .unset, .unset, .unset] [])
  refine own_st (fun _ kq => XS.iloadN X0.here hx rfl (hb hby at_4) rfl kq) ?_
  show own_Ends _ _ _ _ _ _ _ s₁ (mkF m 5 #[.val (.int p1), .val (.int (p1 &&& (3 : Int32))), .unset, .unset, .unset] [(.int (p1 &&& (3 : Int32)))])
  by_cases hc5 : (p1 &&& (3 : Int32)) = (0 : Int32)
  · skip
    refine own_st (fun _ kq => XS.ifNo X0.here hx rfl (hb hby at_5) rfl ((if0 _ _).trans (teq hc5).2) kq) ?_
    show own_Ends _ _ _ _ _ _ _ s₁ (mkF m 8 #[.val (.int p1), .val (.int (p1 &&& (3 : Int32))), .unset, .unset, .unset] [])
    obtain ⟨T1, X1, e1, st1⟩ := getS2 X0 hx hZ hown (host := "") (Or.inl (hw _ (List.mem_of_getElem? (i := 0) rfl))) Via.refl e0 (S_Q.ext O0.2) (g := (mkF m 8 #[.val (.int p1), .val (.int (p1 &&& (3 : Int32))), .unset, .unset, .unset] [])) rfl (hb hby at_8)
    refine own_st st1 ?_
    show own_Ends _ _ _ _ _ _ _ T1 (mkF m 11 #[.val (.int p1), .val (.int (p1 &&& (3 : Int32))), .unset, .unset, .unset] [(.ref rQ)])
    refine own_st (fun _ kq => XS.astoreN X1.here hx rfl (hb hby at_11) rfl rfl (l' := #[.val (.int p1), .val (.int (p1 &&& (3 : Int32))), .val (.ref rQ), .unset, .unset]) rfl kq) ?_
    show own_Ends _ _ _ _ _ _ _ T1 (mkF m 12 #[.val (.int p1), .val (.int (p1 &&& (3 : Int32))), .val (.ref rQ), .unset, .unset] [])
    obtain ⟨T2, X2, e2, st2⟩ := getS2 X1 hx hZ hown (host := "") (Or.inl (hw _ (List.mem_of_getElem? (i := 0) rfl))) Via.refl e1 (S_Q.ext O0.2) (g := (mkF m 12 #[.val (.int p1), .val (.int (p1 &&& (3 : Int32))), .val (.ref rQ), .unset, .unset] [])) rfl (hb hby at_12)
    refine own_st st2 ?_
    show own_Ends _ _ _ _ _ _ _ T2 (mkF m 15 #[.val (.int p1), .val (.int (p1 &&& (3 : Int32))), .val (.ref rQ), .unset, .unset] [(.ref rQ)])
    refine own_st (fun _ kq => XS.astoreN X2.here hx rfl (hb hby at_15) rfl rfl (l' := #[.val (.int p1), .val (.int (p1 &&& (3 : Int32))), .val (.ref rQ), .val (.ref rQ), .unset]) rfl kq) ?_
    show own_Ends _ _ _ _ _ _ _ T2 (mkF m 16 #[.val (.int p1), .val (.int (p1 &&& (3 : Int32))), .val (.ref rQ), .val (.ref rQ), .unset] [])
    refine own_st (fun _ kq => XS.goto X2.here hx rfl (pc0 := 16) (pc' := 59) rfl (hb hby at_16) (by decide) (by decide) kq) ?_
    show own_Ends _ _ _ _ _ _ _ T2 (mkF m 59 #[.val (.int p1), .val (.int (p1 &&& (3 : Int32))), .val (.ref rQ), .val (.ref rQ), .unset] [])
    refine own_st (fun _ kq => XS.aloadN X2.here hx rfl (hb hby at_59) rfl rfl kq) ?_
    show own_Ends _ _ _ _ _ _ _ T2 (mkF m 60 #[.val (.int p1), .val (.int (p1 &&& (3 : Int32))), .val (.ref rQ), .val (.ref rQ), .unset] [(.ref rQ)])
    obtain ⟨cq3, kq3, q3a, q3b, q3c⟩ := isOf hZ e2 (E_Q.ext O0.2)
    obtain ⟨_, _, ⟨T3, L3, k3, n3⟩, -, X3, ⟨Lc3, hQ3, l3, y3, z3⟩, st3⟩ := X2.virtualBack hx (y := (⟨"com/example/tessera/tessera/interpreter/CollectionValue$Kind", "ordered", "()Lcom/example/tessera/tessera/interpreter/CollectionValue$Kind;"⟩ : MethodName)) (z := (⟨"com/example/tessera/tessera/interpreter/CollectionValue$Kind", "ordered", "()Lcom/example/tessera/tessera/interpreter/CollectionValue$Kind;"⟩ : MethodName)) hown (mvT hZ (hw _ (List.mem_of_getElem? (i := 3) rfl))) (mvT hZ (hw _ (List.mem_of_getElem? (i := 4) rfl))) (notFace_of_selects (args := #[]) (mvT hZ (hw _ (List.mem_of_getElem? (i := 6) rfl)))) (mvT hZ (hw _ (List.mem_of_getElem? (i := 6) rfl))) (mvT hZ (hw _ (List.mem_of_getElem? (i := 5) rfl))) (by decide) (backOf (W := 0) (rm_ordered l Z a0 hw [] rQ (0 : Int32) rQ rB rS rO h0 n0 O0 (F_Q_unique.ext O0.2) G) hZ (hw _ (List.mem_of_getElem? (i := 7) rfl)) (hw _ (List.mem_of_getElem? (i := 1) rfl)) (by decide) (by decide)) q3a q3c (g := (mkF m 60 #[.val (.int p1), .val (.int (p1 &&& (3 : Int32))), .val (.ref rQ), .val (.ref rQ), .unset] [(.ref rQ)])) rfl (by rw [hml]; rfl) (Steps.refl _) (argsL := []) (rest := []) (lenOf pd_0 rfl) rfl (by show 2 * 0 + _ ≤ _; exact Nat.le_of_eq rfl) (hb hby at_60) (fun _ _ => ⟨rfl, e2, (by decide : 0 + 0 ≤ _), (by decide : 0 + 0 ≤ _)⟩)
    dsimp only [Pt.U, Pt.locs, Pt.cells, Pt.slots] at X3 l3 y3 z3 st3 hQ3
    subst l3 y3 z3
    obtain ⟨rfl, N3q, e3⟩ := hQ3
    have N3 := Fr.app N0 N3q
    refine own_tr st3 ?_
    show own_Ends _ _ _ _ _ _ _ T3 (mkF m 63 #[.val (.int p1), .val (.int (p1 &&& (3 : Int32))), .val (.ref rQ), .val (.ref rQ), .unset] [(.ref rQ)])
    refine own_st (fun _ kq => XS.astore X3.here hx rfl (hb hby at_63) rfl rfl (l' := #[.val (.int p1), .val (.int (p1 &&& (3 : Int32))), .val (.ref rQ), .val (.ref rQ), .val (.ref rQ)]) rfl kq) ?_
    show own_Ends _ _ _ _ _ _ _ T3 (mkF m 65 #[.val (.int p1), .val (.int (p1 &&& (3 : Int32))), .val (.ref rQ), .val (.ref rQ), .val (.ref rQ)] [])
    refine own_st (fun _ kq => XS.aload X3.here hx rfl (hb hby at_65) rfl rfl kq) ?_
    show own_Ends _ _ _ _ _ _ _ T3 (mkF m 67 #[.val (.int p1), .val (.int (p1 &&& (3 : Int32))), .val (.ref rQ), .val (.ref rQ), .val (.ref rQ)] [(.ref rQ)])
    refine own_st (fun _ kq => XS.aloadN X3.here hx rfl (hb hby at_67) rfl rfl kq) ?_
    show own_Ends _ _ _ _ _ _ _ T3 (mkF m 68 #[.val (.int p1), .val (.int (p1 &&& (3 : Int32))), .val (.ref rQ), .val (.ref rQ), .val (.ref rQ)] [(.ref rQ), (.ref rQ)])
    refine own_st (fun _ kq => Jvm.RoadKit.acmp (g := (mkF m 68 #[.val (.int p1), .val (.int (p1 &&& (3 : Int32))), .val (.ref rQ), .val (.ref rQ), .val (.ref rQ)] [(.ref rQ), (.ref rQ)])) X3 hx rfl rfl rfl (pc0 := 68) (pc' := 71) (same := true) rfl (hb hby at_68) rfl (decide_eq_true rfl) (by decide) (by decide) kq) ?_
    show own_Ends _ _ _ _ _ _ _ T3 (mkF m 71 #[.val (.int p1), .val (.int (p1 &&& (3 : Int32))), .val (.ref rQ), .val (.ref rQ), .val (.ref rQ)] [])
    refine own_st (fun _ kq => XS.aload X3.here hx rfl (hb hby at_71) rfl rfl kq) ?_
    show own_Ends _ _ _ _ _ _ _ T3 (mkF m 73 #[.val (.int p1), .val (.int (p1 &&& (3 : Int32))), .val (.ref rQ), .val (.ref rQ), .val (.ref rQ)] [(.ref rQ)])
    obtain ⟨cq4, kq4, q4a, q4b, q4c⟩ := isOf hZ e3 (E_Q.ext O0.2)
    obtain ⟨_, _, ⟨T4, L4, k4, n4⟩, -, X4, ⟨Lc4, hQ4, l4, y4, z4⟩, st4⟩ := X3.virtualBack hx (y := (⟨"com/example/tessera/tessera/interpreter/CollectionValue$Kind", "ordered", "()Lcom/example/tessera/tessera/interpreter/CollectionValue$Kind;"⟩ : MethodName)) (z := (⟨"com/example/tessera/tessera/interpreter/CollectionValue$Kind", "ordered", "()Lcom/example/tessera/tessera/interpreter/CollectionValue$Kind;"⟩ : MethodName)) hown (mvT hZ (hw _ (List.mem_of_getElem? (i := 3) rfl))) (mvT hZ (hw _ (List.mem_of_getElem? (i := 4) rfl))) (notFace_of_selects (args := #[]) (mvT hZ (hw _ (List.mem_of_getElem? (i := 6) rfl)))) (mvT hZ (hw _ (List.mem_of_getElem? (i := 6) rfl))) (mvT hZ (hw _ (List.mem_of_getElem? (i := 5) rfl))) (by decide) (backOf (W := 0) (rm_ordered l Z a0 hw [] rQ (0 : Int32) rQ rB rS rO h0 n0 O0 (F_Q_unique.ext O0.2) G) hZ (hw _ (List.mem_of_getElem? (i := 7) rfl)) (hw _ (List.mem_of_getElem? (i := 1) rfl)) (by decide) (by decide)) q4a q4c (g := (mkF m 73 #[.val (.int p1), .val (.int (p1 &&& (3 : Int32))), .val (.ref rQ), .val (.ref rQ), .val (.ref rQ)] [(.ref rQ)])) rfl (by rw [hml]; rfl) (Steps.refl _) (argsL := []) (rest := []) (lenOf pd_0 rfl) rfl (by show 2 * 0 + _ ≤ _; exact Nat.le_of_eq rfl) (hb hby at_73) (fun _ _ => ⟨rfl, e3, (by decide : 0 + 0 ≤ _), (by decide : 0 + 0 ≤ _)⟩)
    dsimp only [Pt.U, Pt.locs, Pt.cells, Pt.slots] at X4 l4 y4 z4 st4 hQ4
    subst l4 y4 z4
    obtain ⟨rfl, N4q, e4⟩ := hQ4
    have N4 := Fr.app N3 N4q
    refine own_tr st4 ?_
    show own_Ends _ _ _ _ _ _ _ T4 (mkF m 76 #[.val (.int p1), .val (.int (p1 &&& (3 : Int32))), .val (.ref rQ), .val (.ref rQ), .val (.ref rQ)] [(.ref rQ)])
    refine own_st (fun _ kq => XS.aload X4.here hx rfl (hb hby at_76) rfl rfl kq) ?_
    show own_Ends _ _ _ _ _ _ _ T4 (mkF m 78 #[.val (.int p1), .val (.int (p1 &&& (3 : Int32))), .val (.ref rQ), .val (.ref rQ), .val (.ref rQ)] [(.ref rQ), (.ref rQ)])
    refine own_st (fun _ kq => Jvm.RoadKit.acmp (g := (mkF m 78 #[.val (.int p1), .val (.int (p1 &&& (3 : Int32))), .val (.ref rQ), .val (.ref rQ), .val (.ref rQ)] [(.ref rQ), (.ref rQ)])) X4 hx rfl rfl rfl (pc0 := 78) (pc' := 81) (same := true) rfl (hb hby at_78) rfl (decide_eq_true rfl) (by decide) (by decide) kq) ?_
    show own_Ends _ _ _ _ _ _ _ T4 (mkF m 81 #[.val (.int p1), .val (.int (p1 &&& (3 : Int32))), .val (.ref rQ), .val (.ref rQ), .val (.ref rQ)] [])
    refine own_st (fun _ kq => XS.aload X4.here hx rfl (hb hby at_81) rfl rfl kq) ?_
    show own_Ends _ _ _ _ _ _ _ T4 (mkF m 83 #[.val (.int p1), .val (.int (p1 &&& (3 : Int32))), .val (.ref rQ), .val (.ref rQ), .val (.ref rQ)] [(.ref rQ)])
    obtain ⟨cq5, kq5, q5a, q5b, q5c⟩ := isOf hZ e4 (E_Q.ext O0.2)
    obtain ⟨_, _, ⟨T5, L5, k5, n5⟩, -, X5, ⟨Lc5, hQ5, l5, y5, z5⟩, st5⟩ := X4.virtualBack hx (y := (⟨"com/example/tessera/tessera/interpreter/CollectionValue$Kind", "isOrdered", "()Z"⟩ : MethodName)) (z := (⟨"com/example/tessera/tessera/interpreter/CollectionValue$Kind", "isOrdered", "()Z"⟩ : MethodName)) hown (mvT hZ (hw _ (List.mem_of_getElem? (i := 11) rfl))) (mvT hZ (hw _ (List.mem_of_getElem? (i := 12) rfl))) (notFace_of_selects (args := #[]) (mvT hZ (hw _ (List.mem_of_getElem? (i := 14) rfl)))) (mvT hZ (hw _ (List.mem_of_getElem? (i := 14) rfl))) (mvT hZ (hw _ (List.mem_of_getElem? (i := 13) rfl))) (by decide) (backOf (W := 0) (rm_iso l Z a0 hw [] rQ (1 : Int32) rQ rB rS rO h0 n0 O0 (F_Q_ordered.ext O0.2) G) hZ (hw _ (List.mem_of_getElem? (i := 15) rfl)) (hw _ (List.mem_of_getElem? (i := 1) rfl)) (by decide) (by decide)) q5a q5c (g := (mkF m 83 #[.val (.int p1), .val (.int (p1 &&& (3 : Int32))), .val (.ref rQ), .val (.ref rQ), .val (.ref rQ)] [(.ref rQ)])) rfl (by rw [hml]; rfl) (Steps.refl _) (argsL := []) (rest := []) (lenOf pd_1 rfl) rfl (by show 2 * 0 + _ ≤ _; exact Nat.le_of_eq rfl) (hb hby at_83) (fun _ _ => ⟨rfl, e4, (by decide : 0 + 0 ≤ _), (by decide : 0 + 0 ≤ _)⟩)
    dsimp only [Pt.U, Pt.locs, Pt.cells, Pt.slots] at X5 l5 y5 z5 st5 hQ5
    subst l5 y5 z5
    obtain ⟨rfl, N5q, e5⟩ := hQ5
    have N5 := Fr.app N4 N5q
    refine own_tr st5 ?_
    show own_Ends _ _ _ _ _ _ _ T5 (mkF m 86 #[.val (.int p1), .val (.int (p1 &&& (3 : Int32))), .val (.ref rQ), .val (.ref rQ), .val (.ref rQ)] [(.int (1 : Int32))])
    refine own_st (fun _ kq => XS.ifNo X5.here hx rfl (hb hby at_86) rfl ((if0 _ _).trans (feq (by decide : ¬ ((1 : Int32) = (0 : Int32)))).1) kq) ?_
    show own_Ends _ _ _ _ _ _ _ T5 (mkF m 89 #[.val (.int p1), .val (.int (p1 &&& (3 : Int32))), .val (.ref rQ), .val (.ref rQ), .val (.ref rQ)] [])
    refine own_st (fun _ kq => XS.aload X5.here hx rfl (hb hby at_89) rfl rfl kq) ?_
    show own_Ends _ _ _ _ _ _ _ T5 (mkF m 91 #[.val (.int p1), .val (.int (p1 &&& (3 : Int32))), .val (.ref rQ), .val (.ref rQ), .val (.ref rQ)] [(.ref rQ)])
    obtain ⟨cq6, kq6, q6a, q6b, q6c⟩ := isOf hZ e5 (E_Q.ext O0.2)
    obtain ⟨_, _, ⟨T6, L6, k6, n6⟩, -, X6, ⟨Lc6, hQ6, l6, y6, z6⟩, st6⟩ := X5.virtualBack hx (y := (⟨"com/example/tessera/tessera/interpreter/CollectionValue$Kind", "isUnique", "()Z"⟩ : MethodName)) (z := (⟨"com/example/tessera/tessera/interpreter/CollectionValue$Kind", "isUnique", "()Z"⟩ : MethodName)) hown (mvT hZ (hw _ (List.mem_of_getElem? (i := 18) rfl))) (mvT hZ (hw _ (List.mem_of_getElem? (i := 19) rfl))) (notFace_of_selects (args := #[]) (mvT hZ (hw _ (List.mem_of_getElem? (i := 21) rfl)))) (mvT hZ (hw _ (List.mem_of_getElem? (i := 21) rfl))) (mvT hZ (hw _ (List.mem_of_getElem? (i := 20) rfl))) (by decide) (backOf (W := 0) (rm_isu l Z a0 hw [] rQ (0 : Int32) rQ rB rS rO h0 n0 O0 (F_Q_unique.ext O0.2) G) hZ (hw _ (List.mem_of_getElem? (i := 22) rfl)) (hw _ (List.mem_of_getElem? (i := 1) rfl)) (by decide) (by decide)) q6a q6c (g := (mkF m 91 #[.val (.int p1), .val (.int (p1 &&& (3 : Int32))), .val (.ref rQ), .val (.ref rQ), .val (.ref rQ)] [(.ref rQ)])) rfl (by rw [hml]; rfl) (Steps.refl _) (argsL := []) (rest := []) (lenOf pd_1 rfl) rfl (by show 2 * 0 + _ ≤ _; exact Nat.le_of_eq rfl) (hb hby at_91) (fun _ _ => ⟨rfl, e5, (by decide : 0 + 0 ≤ _), (by decide : 0 + 0 ≤ _)⟩)
    dsimp only [Pt.U, Pt.locs, Pt.cells, Pt.slots] at X6 l6 y6 z6 st6 hQ6
    subst l6 y6 z6
    obtain ⟨rfl, N6q, e6⟩ := hQ6
    have N6 := Fr.app N5 N6q
    refine own_tr st6 ?_
    show own_Ends _ _ _ _ _ _ _ T6 (mkF m 94 #[.val (.int p1), .val (.int (p1 &&& (3 : Int32))), .val (.ref rQ), .val (.ref rQ), .val (.ref rQ)] [(.int (0 : Int32))])
    refine own_st (fun _ kq => XS.aloadN X6.here hx rfl (hb hby at_94) rfl rfl kq) ?_
    show own_Ends _ _ _ _ _ _ _ T6 (mkF m 95 #[.val (.int p1), .val (.int (p1 &&& (3 : Int32))), .val (.ref rQ), .val (.ref rQ), .val (.ref rQ)] [(.ref rQ), (.int (0 : Int32))])
    obtain ⟨cq7, kq7, q7a, q7b, q7c⟩ := isOf hZ e6 (E_Q.ext O0.2)
    obtain ⟨_, _, ⟨T7, L7, k7, n7⟩, -, X7, ⟨Lc7, hQ7, l7, y7, z7⟩, st7⟩ := X6.virtualBack hx (y := (⟨"com/example/tessera/tessera/interpreter/CollectionValue$Kind", "isUnique", "()Z"⟩ : MethodName)) (z := (⟨"com/example/tessera/tessera/interpreter/CollectionValue$Kind", "isUnique", "()Z"⟩ : MethodName)) hown (mvT hZ (hw _ (List.mem_of_getElem? (i := 18) rfl))) (mvT hZ (hw _ (List.mem_of_getElem? (i := 19) rfl))) (notFace_of_selects (args := #[]) (mvT hZ (hw _ (List.mem_of_getElem? (i := 21) rfl)))) (mvT hZ (hw _ (List.mem_of_getElem? (i := 21) rfl))) (mvT hZ (hw _ (List.mem_of_getElem? (i := 20) rfl))) (by decide) (backOf (W := 1) (rm_isu l Z a0 hw [] rQ (0 : Int32) rQ rB rS rO h0 n0 O0 (F_Q_unique.ext O0.2) G) hZ (hw _ (List.mem_of_getElem? (i := 22) rfl)) (hw _ (List.mem_of_getElem? (i := 1) rfl)) (by decide) (by decide)) q7a q7c (g := (mkF m 95 #[.val (.int p1), .val (.int (p1 &&& (3 : Int32))), .val (.ref rQ), .val (.ref rQ), .val (.ref rQ)] [(.ref rQ), (.int (0 : Int32))])) rfl (by rw [hml]; rfl) (Steps.refl _) (argsL := []) (rest := [(.int (0 : Int32))]) (lenOf pd_1 rfl) rfl (by show 2 * 0 + _ ≤ _; exact Nat.le_of_eq rfl) (hb hby at_95) (fun _ _ => ⟨rfl, e6, (by decide : 0 + 0 ≤ _), (by decide : 0 + 0 ≤ _)⟩)
    dsimp only [Pt.U, Pt.locs, Pt.cells, Pt.slots] at X7 l7 y7 z7 st7 hQ7
    subst l7 y7 z7
    obtain ⟨rfl, N7q, e7⟩ := hQ7
    have N7 := Fr.app N6 N7q
    refine own_tr st7 ?_
    show own_Ends _ _ _ _ _ _ _ T7 (mkF m 98 #[.val (.int p1), .val (.int (p1 &&& (3 : Int32))), .val (.ref rQ), .val (.ref rQ), .val (.ref rQ)] [(.int (0 : Int32)), (.int (0 : Int32))])
    refine own_st (fun _ kq => XS.icmpNo X7.here hx rfl (hb hby at_98) rfl (teq (by decide : (0 : Int32) = (0 : Int32))).2 kq) ?_
    show own_Ends _ _ _ _ _ _ _ T7 (mkF m 101 #[.val (.int p1), .val (.int (p1 &&& (3 : Int32))), .val (.ref rQ), .val (.ref rQ), .val (.ref rQ)] [])
    refine own_st (fun _ kq => XS.iconst X7.here hx rfl (hb hby at_101) kq) ?_
    show own_Ends _ _ _ _ _ _ _ T7 (mkF m 102 #[.val (.int p1), .val (.int (p1 &&& (3 : Int32))), .val (.ref rQ), .val (.ref rQ), .val (.ref rQ)] [(.int (1 : Int32))])
    refine own_st (fun _ kq => XS.goto X7.here hx rfl (pc0 := 102) (pc' := 106) rfl (hb hby at_102) (by decide) (by decide) kq) ?_
    show own_Ends _ _ _ _ _ _ _ T7 (mkF m 106 #[.val (.int p1), .val (.int (p1 &&& (3 : Int32))), .val (.ref rQ), .val (.ref rQ), .val (.ref rQ)] [(.int (1 : Int32))])
    refine own_retN X7 hx (t := .boolean) Bd.returns (by simp) (hb hby at_106) hlk (by decide) (by decide) (w := (1 : Int32)) (by decide) ?_
    show Q_rm_law Z p1 rQ rB rS rO h0 n0 _ T7.heap _
    rw [e7]
    exact ⟨rfl, N7⟩
  · skip
    refine own_st (fun _ kq => XS.ifYes X0.here hx rfl (pc0 := 5) (pc' := 19) rfl (hb hby at_5) rfl ((if0 _ _).trans (feq hc5).2) (by decide) (by decide) kq) ?_
    show own_Ends _ _ _ _ _ _ _ s₁ (mkF m 19 #[.val (.int p1), .val (.int (p1 &&& (3 : Int32))), .unset, .unset, .unset] [])
    refine own_st (fun _ kq => XS.iloadN X0.here hx rfl (hb hby at_19) rfl kq) ?_
    show own_Ends _ _ _ _ _ _ _ s₁ (mkF m 20 #[.val (.int p1), .val (.int (p1 &&& (3 : Int32))), .unset, .unset, .unset] [(.int (p1 &&& (3 : Int32)))])
    refine own_st (fun _ kq => XS.iconst X0.here hx rfl (hb hby at_20) kq) ?_
    show own_Ends _ _ _ _ _ _ _ s₁ (mkF m 21 #[.val (.int p1), .val (.int (p1 &&& (3 : Int32))), .unset, .unset, .unset] [(.int (1 : Int32)), (.int (p1 &&& (3 : Int32)))])
    by_cases hc21 : (p1 &&& (3 : Int32)) = (1 : Int32)
    · skip
      refine own_st (fun _ kq => XS.icmpNo X0.here hx rfl (hb hby at_21) rfl (teq hc21).2 kq) ?_
      show own_Ends _ _ _ _ _ _ _ s₁ (mkF m 24 #[.val (.int p1), .val (.int (p1 &&& (3 : Int32))), .unset, .unset, .unset] [])
      obtain ⟨T8, X8, e8, st8⟩ := getS2 X0 hx hZ hown (host := "") (Or.inl (hw _ (List.mem_of_getElem? (i := 27) rfl))) Via.refl e0 (S_O.ext O0.2) (g := (mkF m 24 #[.val (.int p1), .val (.int (p1 &&& (3 : Int32))), .unset, .unset, .unset] [])) rfl (hb hby at_24)
      refine own_st st8 ?_
      show own_Ends _ _ _ _ _ _ _ T8 (mkF m 27 #[.val (.int p1), .val (.int (p1 &&& (3 : Int32))), .unset, .unset, .unset] [(.ref rO)])
      refine own_st (fun _ kq => XS.astoreN X8.here hx rfl (hb hby at_27) rfl rfl (l' := #[.val (.int p1), .val (.int (p1 &&& (3 : Int32))), .val (.ref rO), .unset, .unset]) rfl kq) ?_
      show own_Ends _ _ _ _ _ _ _ T8 (mkF m 28 #[.val (.int p1), .val (.int (p1 &&& (3 : Int32))), .val (.ref rO), .unset, .unset] [])
      obtain ⟨T9, X9, e9, st9⟩ := getS2 X8 hx hZ hown (host := "") (Or.inl (hw _ (List.mem_of_getElem? (i := 27) rfl))) Via.refl e8 (S_O.ext O0.2) (g := (mkF m 28 #[.val (.int p1), .val (.int (p1 &&& (3 : Int32))), .val (.ref rO), .unset, .unset] [])) rfl (hb hby at_28)
      refine own_st st9 ?_
      show own_Ends _ _ _ _ _ _ _ T9 (mkF m 31 #[.val (.int p1), .val (.int (p1 &&& (3 : Int32))), .val (.ref rO), .unset, .unset] [(.ref rO)])
      refine own_st (fun _ kq => XS.astoreN X9.here hx rfl (hb hby at_31) rfl rfl (l' := #[.val (.int p1), .val (.int (p1 &&& (3 : Int32))), .val (.ref rO), .val (.ref rO), .unset]) rfl kq) ?_
      show own_Ends _ _ _ _ _ _ _ T9 (mkF m 32 #[.val (.int p1), .val (.int (p1 &&& (3 : Int32))), .val (.ref rO), .val (.ref rO), .unset] [])
      refine own_st (fun _ kq => XS.goto X9.here hx rfl (pc0 := 32) (pc' := 59) rfl (hb hby at_32) (by decide) (by decide) kq) ?_
      show own_Ends _ _ _ _ _ _ _ T9 (mkF m 59 #[.val (.int p1), .val (.int (p1 &&& (3 : Int32))), .val (.ref rO), .val (.ref rO), .unset] [])
      refine own_st (fun _ kq => XS.aloadN X9.here hx rfl (hb hby at_59) rfl rfl kq) ?_
      show own_Ends _ _ _ _ _ _ _ T9 (mkF m 60 #[.val (.int p1), .val (.int (p1 &&& (3 : Int32))), .val (.ref rO), .val (.ref rO), .unset] [(.ref rO)])
      obtain ⟨cq10, kq10, q10a, q10b, q10c⟩ := isOf hZ e9 (E_O.ext O0.2)
      obtain ⟨_, _, ⟨T10, L10, k10, n10⟩, -, X10, ⟨Lc10, hQ10, l10, y10, z10⟩, st10⟩ := X9.virtualBack hx (y := (⟨"com/example/tessera/tessera/interpreter/CollectionValue$Kind", "ordered", "()Lcom/example/tessera/tessera/interpreter/CollectionValue$Kind;"⟩ : MethodName)) (z := (⟨"com/example/tessera/tessera/interpreter/CollectionValue$Kind", "ordered", "()Lcom/example/tessera/tessera/interpreter/CollectionValue$Kind;"⟩ : MethodName)) hown (mvT hZ (hw _ (List.mem_of_getElem? (i := 3) rfl))) (mvT hZ (hw _ (List.mem_of_getElem? (i := 4) rfl))) (notFace_of_selects (args := #[]) (mvT hZ (hw _ (List.mem_of_getElem? (i := 6) rfl)))) (mvT hZ (hw _ (List.mem_of_getElem? (i := 6) rfl))) (mvT hZ (hw _ (List.mem_of_getElem? (i := 5) rfl))) (by decide) (backOf (W := 0) (rm_ordered l Z a0 hw [] rO (1 : Int32) rQ rB rS rO h0 n0 O0 (F_O_unique.ext O0.2) G) hZ (hw _ (List.mem_of_getElem? (i := 7) rfl)) (hw _ (List.mem_of_getElem? (i := 1) rfl)) (by decide) (by decide)) q10a q10c (g := (mkF m 60 #[.val (.int p1), .val (.int (p1 &&& (3 : Int32))), .val (.ref rO), .val (.ref rO), .unset] [(.ref rO)])) rfl (by rw [hml]; rfl) (Steps.refl _) (argsL := []) (rest := []) (lenOf pd_0 rfl) rfl (by show 2 * 0 + _ ≤ _; exact Nat.le_of_eq rfl) (hb hby at_60) (fun _ _ => ⟨rfl, e9, (by decide : 0 + 0 ≤ _), (by decide : 0 + 0 ≤ _)⟩)
      dsimp only [Pt.U, Pt.locs, Pt.cells, Pt.slots] at X10 l10 y10 z10 st10 hQ10
      subst l10 y10 z10
      obtain ⟨rfl, N10q, e10⟩ := hQ10
      have N10 := Fr.app N0 N10q
      refine own_tr st10 ?_
      show own_Ends _ _ _ _ _ _ _ T10 (mkF m 63 #[.val (.int p1), .val (.int (p1 &&& (3 : Int32))), .val (.ref rO), .val (.ref rO), .unset] [(.ref rO)])
      refine own_st (fun _ kq => XS.astore X10.here hx rfl (hb hby at_63) rfl rfl (l' := #[.val (.int p1), .val (.int (p1 &&& (3 : Int32))), .val (.ref rO), .val (.ref rO), .val (.ref rO)]) rfl kq) ?_
      show own_Ends _ _ _ _ _ _ _ T10 (mkF m 65 #[.val (.int p1), .val (.int (p1 &&& (3 : Int32))), .val (.ref rO), .val (.ref rO), .val (.ref rO)] [])
      refine own_st (fun _ kq => XS.aload X10.here hx rfl (hb hby at_65) rfl rfl kq) ?_
      show own_Ends _ _ _ _ _ _ _ T10 (mkF m 67 #[.val (.int p1), .val (.int (p1 &&& (3 : Int32))), .val (.ref rO), .val (.ref rO), .val (.ref rO)] [(.ref rO)])
      refine own_st (fun _ kq => XS.aloadN X10.here hx rfl (hb hby at_67) rfl rfl kq) ?_
      show own_Ends _ _ _ _ _ _ _ T10 (mkF m 68 #[.val (.int p1), .val (.int (p1 &&& (3 : Int32))), .val (.ref rO), .val (.ref rO), .val (.ref rO)] [(.ref rO), (.ref rO)])
      refine own_st (fun _ kq => Jvm.RoadKit.acmp (g := (mkF m 68 #[.val (.int p1), .val (.int (p1 &&& (3 : Int32))), .val (.ref rO), .val (.ref rO), .val (.ref rO)] [(.ref rO), (.ref rO)])) X10 hx rfl rfl rfl (pc0 := 68) (pc' := 71) (same := true) rfl (hb hby at_68) rfl (decide_eq_true rfl) (by decide) (by decide) kq) ?_
      show own_Ends _ _ _ _ _ _ _ T10 (mkF m 71 #[.val (.int p1), .val (.int (p1 &&& (3 : Int32))), .val (.ref rO), .val (.ref rO), .val (.ref rO)] [])
      refine own_st (fun _ kq => XS.aload X10.here hx rfl (hb hby at_71) rfl rfl kq) ?_
      show own_Ends _ _ _ _ _ _ _ T10 (mkF m 73 #[.val (.int p1), .val (.int (p1 &&& (3 : Int32))), .val (.ref rO), .val (.ref rO), .val (.ref rO)] [(.ref rO)])
      obtain ⟨cq11, kq11, q11a, q11b, q11c⟩ := isOf hZ e10 (E_O.ext O0.2)
      obtain ⟨_, _, ⟨T11, L11, k11, n11⟩, -, X11, ⟨Lc11, hQ11, l11, y11, z11⟩, st11⟩ := X10.virtualBack hx (y := (⟨"com/example/tessera/tessera/interpreter/CollectionValue$Kind", "ordered", "()Lcom/example/tessera/tessera/interpreter/CollectionValue$Kind;"⟩ : MethodName)) (z := (⟨"com/example/tessera/tessera/interpreter/CollectionValue$Kind", "ordered", "()Lcom/example/tessera/tessera/interpreter/CollectionValue$Kind;"⟩ : MethodName)) hown (mvT hZ (hw _ (List.mem_of_getElem? (i := 3) rfl))) (mvT hZ (hw _ (List.mem_of_getElem? (i := 4) rfl))) (notFace_of_selects (args := #[]) (mvT hZ (hw _ (List.mem_of_getElem? (i := 6) rfl)))) (mvT hZ (hw _ (List.mem_of_getElem? (i := 6) rfl))) (mvT hZ (hw _ (List.mem_of_getElem? (i := 5) rfl))) (by decide) (backOf (W := 0) (rm_ordered l Z a0 hw [] rO (1 : Int32) rQ rB rS rO h0 n0 O0 (F_O_unique.ext O0.2) G) hZ (hw _ (List.mem_of_getElem? (i := 7) rfl)) (hw _ (List.mem_of_getElem? (i := 1) rfl)) (by decide) (by decide)) q11a q11c (g := (mkF m 73 #[.val (.int p1), .val (.int (p1 &&& (3 : Int32))), .val (.ref rO), .val (.ref rO), .val (.ref rO)] [(.ref rO)])) rfl (by rw [hml]; rfl) (Steps.refl _) (argsL := []) (rest := []) (lenOf pd_0 rfl) rfl (by show 2 * 0 + _ ≤ _; exact Nat.le_of_eq rfl) (hb hby at_73) (fun _ _ => ⟨rfl, e10, (by decide : 0 + 0 ≤ _), (by decide : 0 + 0 ≤ _)⟩)
      dsimp only [Pt.U, Pt.locs, Pt.cells, Pt.slots] at X11 l11 y11 z11 st11 hQ11
      subst l11 y11 z11
      obtain ⟨rfl, N11q, e11⟩ := hQ11
      have N11 := Fr.app N10 N11q
      refine own_tr st11 ?_
      show own_Ends _ _ _ _ _ _ _ T11 (mkF m 76 #[.val (.int p1), .val (.int (p1 &&& (3 : Int32))), .val (.ref rO), .val (.ref rO), .val (.ref rO)] [(.ref rO)])
      refine own_st (fun _ kq => XS.aload X11.here hx rfl (hb hby at_76) rfl rfl kq) ?_
      show own_Ends _ _ _ _ _ _ _ T11 (mkF m 78 #[.val (.int p1), .val (.int (p1 &&& (3 : Int32))), .val (.ref rO), .val (.ref rO), .val (.ref rO)] [(.ref rO), (.ref rO)])
      refine own_st (fun _ kq => Jvm.RoadKit.acmp (g := (mkF m 78 #[.val (.int p1), .val (.int (p1 &&& (3 : Int32))), .val (.ref rO), .val (.ref rO), .val (.ref rO)] [(.ref rO), (.ref rO)])) X11 hx rfl rfl rfl (pc0 := 78) (pc' := 81) (same := true) rfl (hb hby at_78) rfl (decide_eq_true rfl) (by decide) (by decide) kq) ?_
      show own_Ends _ _ _ _ _ _ _ T11 (mkF m 81 #[.val (.int p1), .val (.int (p1 &&& (3 : Int32))), .val (.ref rO), .val (.ref rO), .val (.ref rO)] [])
      refine own_st (fun _ kq => XS.aload X11.here hx rfl (hb hby at_81) rfl rfl kq) ?_
      show own_Ends _ _ _ _ _ _ _ T11 (mkF m 83 #[.val (.int p1), .val (.int (p1 &&& (3 : Int32))), .val (.ref rO), .val (.ref rO), .val (.ref rO)] [(.ref rO)])
      obtain ⟨cq12, kq12, q12a, q12b, q12c⟩ := isOf hZ e11 (E_O.ext O0.2)
      obtain ⟨_, _, ⟨T12, L12, k12, n12⟩, -, X12, ⟨Lc12, hQ12, l12, y12, z12⟩, st12⟩ := X11.virtualBack hx (y := (⟨"com/example/tessera/tessera/interpreter/CollectionValue$Kind", "isOrdered", "()Z"⟩ : MethodName)) (z := (⟨"com/example/tessera/tessera/interpreter/CollectionValue$Kind", "isOrdered", "()Z"⟩ : MethodName)) hown (mvT hZ (hw _ (List.mem_of_getElem? (i := 11) rfl))) (mvT hZ (hw _ (List.mem_of_getElem? (i := 12) rfl))) (notFace_of_selects (args := #[]) (mvT hZ (hw _ (List.mem_of_getElem? (i := 14) rfl)))) (mvT hZ (hw _ (List.mem_of_getElem? (i := 14) rfl))) (mvT hZ (hw _ (List.mem_of_getElem? (i := 13) rfl))) (by decide) (backOf (W := 0) (rm_iso l Z a0 hw [] rO (1 : Int32) rQ rB rS rO h0 n0 O0 (F_O_ordered.ext O0.2) G) hZ (hw _ (List.mem_of_getElem? (i := 15) rfl)) (hw _ (List.mem_of_getElem? (i := 1) rfl)) (by decide) (by decide)) q12a q12c (g := (mkF m 83 #[.val (.int p1), .val (.int (p1 &&& (3 : Int32))), .val (.ref rO), .val (.ref rO), .val (.ref rO)] [(.ref rO)])) rfl (by rw [hml]; rfl) (Steps.refl _) (argsL := []) (rest := []) (lenOf pd_1 rfl) rfl (by show 2 * 0 + _ ≤ _; exact Nat.le_of_eq rfl) (hb hby at_83) (fun _ _ => ⟨rfl, e11, (by decide : 0 + 0 ≤ _), (by decide : 0 + 0 ≤ _)⟩)
      dsimp only [Pt.U, Pt.locs, Pt.cells, Pt.slots] at X12 l12 y12 z12 st12 hQ12
      subst l12 y12 z12
      obtain ⟨rfl, N12q, e12⟩ := hQ12
      have N12 := Fr.app N11 N12q
      refine own_tr st12 ?_
      show own_Ends _ _ _ _ _ _ _ T12 (mkF m 86 #[.val (.int p1), .val (.int (p1 &&& (3 : Int32))), .val (.ref rO), .val (.ref rO), .val (.ref rO)] [(.int (1 : Int32))])
      refine own_st (fun _ kq => XS.ifNo X12.here hx rfl (hb hby at_86) rfl ((if0 _ _).trans (feq (by decide : ¬ ((1 : Int32) = (0 : Int32)))).1) kq) ?_
      show own_Ends _ _ _ _ _ _ _ T12 (mkF m 89 #[.val (.int p1), .val (.int (p1 &&& (3 : Int32))), .val (.ref rO), .val (.ref rO), .val (.ref rO)] [])
      refine own_st (fun _ kq => XS.aload X12.here hx rfl (hb hby at_89) rfl rfl kq) ?_
      show own_Ends _ _ _ _ _ _ _ T12 (mkF m 91 #[.val (.int p1), .val (.int (p1 &&& (3 : Int32))), .val (.ref rO), .val (.ref rO), .val (.ref rO)] [(.ref rO)])
      obtain ⟨cq13, kq13, q13a, q13b, q13c⟩ := isOf hZ e12 (E_O.ext O0.2)
      obtain ⟨_, _, ⟨T13, L13, k13, n13⟩, -, X13, ⟨Lc13, hQ13, l13, y13, z13⟩, st13⟩ := X12.virtualBack hx (y := (⟨"com/example/tessera/tessera/interpreter/CollectionValue$Kind", "isUnique", "()Z"⟩ : MethodName)) (z := (⟨"com/example/tessera/tessera/interpreter/CollectionValue$Kind", "isUnique", "()Z"⟩ : MethodName)) hown (mvT hZ (hw _ (List.mem_of_getElem? (i := 18) rfl))) (mvT hZ (hw _ (List.mem_of_getElem? (i := 19) rfl))) (notFace_of_selects (args := #[]) (mvT hZ (hw _ (List.mem_of_getElem? (i := 21) rfl)))) (mvT hZ (hw _ (List.mem_of_getElem? (i := 21) rfl))) (mvT hZ (hw _ (List.mem_of_getElem? (i := 20) rfl))) (by decide) (backOf (W := 0) (rm_isu l Z a0 hw [] rO (1 : Int32) rQ rB rS rO h0 n0 O0 (F_O_unique.ext O0.2) G) hZ (hw _ (List.mem_of_getElem? (i := 22) rfl)) (hw _ (List.mem_of_getElem? (i := 1) rfl)) (by decide) (by decide)) q13a q13c (g := (mkF m 91 #[.val (.int p1), .val (.int (p1 &&& (3 : Int32))), .val (.ref rO), .val (.ref rO), .val (.ref rO)] [(.ref rO)])) rfl (by rw [hml]; rfl) (Steps.refl _) (argsL := []) (rest := []) (lenOf pd_1 rfl) rfl (by show 2 * 0 + _ ≤ _; exact Nat.le_of_eq rfl) (hb hby at_91) (fun _ _ => ⟨rfl, e12, (by decide : 0 + 0 ≤ _), (by decide : 0 + 0 ≤ _)⟩)
      dsimp only [Pt.U, Pt.locs, Pt.cells, Pt.slots] at X13 l13 y13 z13 st13 hQ13
      subst l13 y13 z13
      obtain ⟨rfl, N13q, e13⟩ := hQ13
      have N13 := Fr.app N12 N13q
      refine own_tr st13 ?_
      show own_Ends _ _ _ _ _ _ _ T13 (mkF m 94 #[.val (.int p1), .val (.int (p1 &&& (3 : Int32))), .val (.ref rO), .val (.ref rO), .val (.ref rO)] [(.int (1 : Int32))])
      refine own_st (fun _ kq => XS.aloadN X13.here hx rfl (hb hby at_94) rfl rfl kq) ?_
      show own_Ends _ _ _ _ _ _ _ T13 (mkF m 95 #[.val (.int p1), .val (.int (p1 &&& (3 : Int32))), .val (.ref rO), .val (.ref rO), .val (.ref rO)] [(.ref rO), (.int (1 : Int32))])
      obtain ⟨cq14, kq14, q14a, q14b, q14c⟩ := isOf hZ e13 (E_O.ext O0.2)
      obtain ⟨_, _, ⟨T14, L14, k14, n14⟩, -, X14, ⟨Lc14, hQ14, l14, y14, z14⟩, st14⟩ := X13.virtualBack hx (y := (⟨"com/example/tessera/tessera/interpreter/CollectionValue$Kind", "isUnique", "()Z"⟩ : MethodName)) (z := (⟨"com/example/tessera/tessera/interpreter/CollectionValue$Kind", "isUnique", "()Z"⟩ : MethodName)) hown (mvT hZ (hw _ (List.mem_of_getElem? (i := 18) rfl))) (mvT hZ (hw _ (List.mem_of_getElem? (i := 19) rfl))) (notFace_of_selects (args := #[]) (mvT hZ (hw _ (List.mem_of_getElem? (i := 21) rfl)))) (mvT hZ (hw _ (List.mem_of_getElem? (i := 21) rfl))) (mvT hZ (hw _ (List.mem_of_getElem? (i := 20) rfl))) (by decide) (backOf (W := 1) (rm_isu l Z a0 hw [] rO (1 : Int32) rQ rB rS rO h0 n0 O0 (F_O_unique.ext O0.2) G) hZ (hw _ (List.mem_of_getElem? (i := 22) rfl)) (hw _ (List.mem_of_getElem? (i := 1) rfl)) (by decide) (by decide)) q14a q14c (g := (mkF m 95 #[.val (.int p1), .val (.int (p1 &&& (3 : Int32))), .val (.ref rO), .val (.ref rO), .val (.ref rO)] [(.ref rO), (.int (1 : Int32))])) rfl (by rw [hml]; rfl) (Steps.refl _) (argsL := []) (rest := [(.int (1 : Int32))]) (lenOf pd_1 rfl) rfl (by show 2 * 0 + _ ≤ _; exact Nat.le_of_eq rfl) (hb hby at_95) (fun _ _ => ⟨rfl, e13, (by decide : 0 + 0 ≤ _), (by decide : 0 + 0 ≤ _)⟩)
      dsimp only [Pt.U, Pt.locs, Pt.cells, Pt.slots] at X14 l14 y14 z14 st14 hQ14
      subst l14 y14 z14
      obtain ⟨rfl, N14q, e14⟩ := hQ14
      have N14 := Fr.app N13 N14q
      refine own_tr st14 ?_
      show own_Ends _ _ _ _ _ _ _ T14 (mkF m 98 #[.val (.int p1), .val (.int (p1 &&& (3 : Int32))), .val (.ref rO), .val (.ref rO), .val (.ref rO)] [(.int (1 : Int32)), (.int (1 : Int32))])
      refine own_st (fun _ kq => XS.icmpNo X14.here hx rfl (hb hby at_98) rfl (teq (by decide : (1 : Int32) = (1 : Int32))).2 kq) ?_
      show own_Ends _ _ _ _ _ _ _ T14 (mkF m 101 #[.val (.int p1), .val (.int (p1 &&& (3 : Int32))), .val (.ref rO), .val (.ref rO), .val (.ref rO)] [])
      refine own_st (fun _ kq => XS.iconst X14.here hx rfl (hb hby at_101) kq) ?_
      show own_Ends _ _ _ _ _ _ _ T14 (mkF m 102 #[.val (.int p1), .val (.int (p1 &&& (3 : Int32))), .val (.ref rO), .val (.ref rO), .val (.ref rO)] [(.int (1 : Int32))])
      refine own_st (fun _ kq => XS.goto X14.here hx rfl (pc0 := 102) (pc' := 106) rfl (hb hby at_102) (by decide) (by decide) kq) ?_
      show own_Ends _ _ _ _ _ _ _ T14 (mkF m 106 #[.val (.int p1), .val (.int (p1 &&& (3 : Int32))), .val (.ref rO), .val (.ref rO), .val (.ref rO)] [(.int (1 : Int32))])
      refine own_retN X14 hx (t := .boolean) Bd.returns (by simp) (hb hby at_106) hlk (by decide) (by decide) (w := (1 : Int32)) (by decide) ?_
      show Q_rm_law Z p1 rQ rB rS rO h0 n0 _ T14.heap _
      rw [e14]
      exact ⟨rfl, N14⟩
    · skip
      refine own_st (fun _ kq => XS.icmpYes X0.here hx rfl (pc0 := 21) (pc' := 35) rfl (hb hby at_21) rfl (feq hc21).2 (by decide) (by decide) kq) ?_
      show own_Ends _ _ _ _ _ _ _ s₁ (mkF m 35 #[.val (.int p1), .val (.int (p1 &&& (3 : Int32))), .unset, .unset, .unset] [])
      refine own_st (fun _ kq => XS.iloadN X0.here hx rfl (hb hby at_35) rfl kq) ?_
      show own_Ends _ _ _ _ _ _ _ s₁ (mkF m 36 #[.val (.int p1), .val (.int (p1 &&& (3 : Int32))), .unset, .unset, .unset] [(.int (p1 &&& (3 : Int32)))])
      refine own_st (fun _ kq => XS.iconst X0.here hx rfl (hb hby at_36) kq) ?_
      show own_Ends _ _ _ _ _ _ _ s₁ (mkF m 37 #[.val (.int p1), .val (.int (p1 &&& (3 : Int32))), .unset, .unset, .unset] [(.int (2 : Int32)), (.int (p1 &&& (3 : Int32)))])
      by_cases hc37 : (p1 &&& (3 : Int32)) = (2 : Int32)
      · skip
        refine own_st (fun _ kq => XS.icmpNo X0.here hx rfl (hb hby at_37) rfl (teq hc37).2 kq) ?_
        show own_Ends _ _ _ _ _ _ _ s₁ (mkF m 40 #[.val (.int p1), .val (.int (p1 &&& (3 : Int32))), .unset, .unset, .unset] [])
        obtain ⟨T15, X15, e15, st15⟩ := getS2 X0 hx hZ hown (host := "") (Or.inl (hw _ (List.mem_of_getElem? (i := 25) rfl))) Via.refl e0 (S_S.ext O0.2) (g := (mkF m 40 #[.val (.int p1), .val (.int (p1 &&& (3 : Int32))), .unset, .unset, .unset] [])) rfl (hb hby at_40)
        refine own_st st15 ?_
        show own_Ends _ _ _ _ _ _ _ T15 (mkF m 43 #[.val (.int p1), .val (.int (p1 &&& (3 : Int32))), .unset, .unset, .unset] [(.ref rS)])
        refine own_st (fun _ kq => XS.astoreN X15.here hx rfl (hb hby at_43) rfl rfl (l' := #[.val (.int p1), .val (.int (p1 &&& (3 : Int32))), .val (.ref rS), .unset, .unset]) rfl kq) ?_
        show own_Ends _ _ _ _ _ _ _ T15 (mkF m 44 #[.val (.int p1), .val (.int (p1 &&& (3 : Int32))), .val (.ref rS), .unset, .unset] [])
        obtain ⟨T16, X16, e16, st16⟩ := getS2 X15 hx hZ hown (host := "") (Or.inl (hw _ (List.mem_of_getElem? (i := 27) rfl))) Via.refl e15 (S_O.ext O0.2) (g := (mkF m 44 #[.val (.int p1), .val (.int (p1 &&& (3 : Int32))), .val (.ref rS), .unset, .unset] [])) rfl (hb hby at_44)
        refine own_st st16 ?_
        show own_Ends _ _ _ _ _ _ _ T16 (mkF m 47 #[.val (.int p1), .val (.int (p1 &&& (3 : Int32))), .val (.ref rS), .unset, .unset] [(.ref rO)])
        refine own_st (fun _ kq => XS.astoreN X16.here hx rfl (hb hby at_47) rfl rfl (l' := #[.val (.int p1), .val (.int (p1 &&& (3 : Int32))), .val (.ref rS), .val (.ref rO), .unset]) rfl kq) ?_
        show own_Ends _ _ _ _ _ _ _ T16 (mkF m 48 #[.val (.int p1), .val (.int (p1 &&& (3 : Int32))), .val (.ref rS), .val (.ref rO), .unset] [])
        refine own_st (fun _ kq => XS.goto X16.here hx rfl (pc0 := 48) (pc' := 59) rfl (hb hby at_48) (by decide) (by decide) kq) ?_
        show own_Ends _ _ _ _ _ _ _ T16 (mkF m 59 #[.val (.int p1), .val (.int (p1 &&& (3 : Int32))), .val (.ref rS), .val (.ref rO), .unset] [])
        refine own_st (fun _ kq => XS.aloadN X16.here hx rfl (hb hby at_59) rfl rfl kq) ?_
        show own_Ends _ _ _ _ _ _ _ T16 (mkF m 60 #[.val (.int p1), .val (.int (p1 &&& (3 : Int32))), .val (.ref rS), .val (.ref rO), .unset] [(.ref rS)])
        obtain ⟨cq17, kq17, q17a, q17b, q17c⟩ := isOf hZ e16 (E_S.ext O0.2)
        obtain ⟨_, _, ⟨T17, L17, k17, n17⟩, -, X17, ⟨Lc17, hQ17, l17, y17, z17⟩, st17⟩ := X16.virtualBack hx (y := (⟨"com/example/tessera/tessera/interpreter/CollectionValue$Kind", "ordered", "()Lcom/example/tessera/tessera/interpreter/CollectionValue$Kind;"⟩ : MethodName)) (z := (⟨"com/example/tessera/tessera/interpreter/CollectionValue$Kind", "ordered", "()Lcom/example/tessera/tessera/interpreter/CollectionValue$Kind;"⟩ : MethodName)) hown (mvT hZ (hw _ (List.mem_of_getElem? (i := 3) rfl))) (mvT hZ (hw _ (List.mem_of_getElem? (i := 4) rfl))) (notFace_of_selects (args := #[]) (mvT hZ (hw _ (List.mem_of_getElem? (i := 6) rfl)))) (mvT hZ (hw _ (List.mem_of_getElem? (i := 6) rfl))) (mvT hZ (hw _ (List.mem_of_getElem? (i := 5) rfl))) (by decide) (backOf (W := 0) (rm_ordered l Z a0 hw [] rS (1 : Int32) rQ rB rS rO h0 n0 O0 (F_S_unique.ext O0.2) G) hZ (hw _ (List.mem_of_getElem? (i := 7) rfl)) (hw _ (List.mem_of_getElem? (i := 1) rfl)) (by decide) (by decide)) q17a q17c (g := (mkF m 60 #[.val (.int p1), .val (.int (p1 &&& (3 : Int32))), .val (.ref rS), .val (.ref rO), .unset] [(.ref rS)])) rfl (by rw [hml]; rfl) (Steps.refl _) (argsL := []) (rest := []) (lenOf pd_0 rfl) rfl (by show 2 * 0 + _ ≤ _; exact Nat.le_of_eq rfl) (hb hby at_60) (fun _ _ => ⟨rfl, e16, (by decide : 0 + 0 ≤ _), (by decide : 0 + 0 ≤ _)⟩)
        dsimp only [Pt.U, Pt.locs, Pt.cells, Pt.slots] at X17 l17 y17 z17 st17 hQ17
        subst l17 y17 z17
        obtain ⟨rfl, N17q, e17⟩ := hQ17
        have N17 := Fr.app N0 N17q
        refine own_tr st17 ?_
        show own_Ends _ _ _ _ _ _ _ T17 (mkF m 63 #[.val (.int p1), .val (.int (p1 &&& (3 : Int32))), .val (.ref rS), .val (.ref rO), .unset] [(.ref rO)])
        refine own_st (fun _ kq => XS.astore X17.here hx rfl (hb hby at_63) rfl rfl (l' := #[.val (.int p1), .val (.int (p1 &&& (3 : Int32))), .val (.ref rS), .val (.ref rO), .val (.ref rO)]) rfl kq) ?_
        show own_Ends _ _ _ _ _ _ _ T17 (mkF m 65 #[.val (.int p1), .val (.int (p1 &&& (3 : Int32))), .val (.ref rS), .val (.ref rO), .val (.ref rO)] [])
        refine own_st (fun _ kq => XS.aload X17.here hx rfl (hb hby at_65) rfl rfl kq) ?_
        show own_Ends _ _ _ _ _ _ _ T17 (mkF m 67 #[.val (.int p1), .val (.int (p1 &&& (3 : Int32))), .val (.ref rS), .val (.ref rO), .val (.ref rO)] [(.ref rO)])
        refine own_st (fun _ kq => XS.aloadN X17.here hx rfl (hb hby at_67) rfl rfl kq) ?_
        show own_Ends _ _ _ _ _ _ _ T17 (mkF m 68 #[.val (.int p1), .val (.int (p1 &&& (3 : Int32))), .val (.ref rS), .val (.ref rO), .val (.ref rO)] [(.ref rO), (.ref rO)])
        refine own_st (fun _ kq => Jvm.RoadKit.acmp (g := (mkF m 68 #[.val (.int p1), .val (.int (p1 &&& (3 : Int32))), .val (.ref rS), .val (.ref rO), .val (.ref rO)] [(.ref rO), (.ref rO)])) X17 hx rfl rfl rfl (pc0 := 68) (pc' := 71) (same := true) rfl (hb hby at_68) rfl (decide_eq_true rfl) (by decide) (by decide) kq) ?_
        show own_Ends _ _ _ _ _ _ _ T17 (mkF m 71 #[.val (.int p1), .val (.int (p1 &&& (3 : Int32))), .val (.ref rS), .val (.ref rO), .val (.ref rO)] [])
        refine own_st (fun _ kq => XS.aload X17.here hx rfl (hb hby at_71) rfl rfl kq) ?_
        show own_Ends _ _ _ _ _ _ _ T17 (mkF m 73 #[.val (.int p1), .val (.int (p1 &&& (3 : Int32))), .val (.ref rS), .val (.ref rO), .val (.ref rO)] [(.ref rO)])
        obtain ⟨cq18, kq18, q18a, q18b, q18c⟩ := isOf hZ e17 (E_O.ext O0.2)
        obtain ⟨_, _, ⟨T18, L18, k18, n18⟩, -, X18, ⟨Lc18, hQ18, l18, y18, z18⟩, st18⟩ := X17.virtualBack hx (y := (⟨"com/example/tessera/tessera/interpreter/CollectionValue$Kind", "ordered", "()Lcom/example/tessera/tessera/interpreter/CollectionValue$Kind;"⟩ : MethodName)) (z := (⟨"com/example/tessera/tessera/interpreter/CollectionValue$Kind", "ordered", "()Lcom/example/tessera/tessera/interpreter/CollectionValue$Kind;"⟩ : MethodName)) hown (mvT hZ (hw _ (List.mem_of_getElem? (i := 3) rfl))) (mvT hZ (hw _ (List.mem_of_getElem? (i := 4) rfl))) (notFace_of_selects (args := #[]) (mvT hZ (hw _ (List.mem_of_getElem? (i := 6) rfl)))) (mvT hZ (hw _ (List.mem_of_getElem? (i := 6) rfl))) (mvT hZ (hw _ (List.mem_of_getElem? (i := 5) rfl))) (by decide) (backOf (W := 0) (rm_ordered l Z a0 hw [] rO (1 : Int32) rQ rB rS rO h0 n0 O0 (F_O_unique.ext O0.2) G) hZ (hw _ (List.mem_of_getElem? (i := 7) rfl)) (hw _ (List.mem_of_getElem? (i := 1) rfl)) (by decide) (by decide)) q18a q18c (g := (mkF m 73 #[.val (.int p1), .val (.int (p1 &&& (3 : Int32))), .val (.ref rS), .val (.ref rO), .val (.ref rO)] [(.ref rO)])) rfl (by rw [hml]; rfl) (Steps.refl _) (argsL := []) (rest := []) (lenOf pd_0 rfl) rfl (by show 2 * 0 + _ ≤ _; exact Nat.le_of_eq rfl) (hb hby at_73) (fun _ _ => ⟨rfl, e17, (by decide : 0 + 0 ≤ _), (by decide : 0 + 0 ≤ _)⟩)
        dsimp only [Pt.U, Pt.locs, Pt.cells, Pt.slots] at X18 l18 y18 z18 st18 hQ18
        subst l18 y18 z18
        obtain ⟨rfl, N18q, e18⟩ := hQ18
        have N18 := Fr.app N17 N18q
        refine own_tr st18 ?_
        show own_Ends _ _ _ _ _ _ _ T18 (mkF m 76 #[.val (.int p1), .val (.int (p1 &&& (3 : Int32))), .val (.ref rS), .val (.ref rO), .val (.ref rO)] [(.ref rO)])
        refine own_st (fun _ kq => XS.aload X18.here hx rfl (hb hby at_76) rfl rfl kq) ?_
        show own_Ends _ _ _ _ _ _ _ T18 (mkF m 78 #[.val (.int p1), .val (.int (p1 &&& (3 : Int32))), .val (.ref rS), .val (.ref rO), .val (.ref rO)] [(.ref rO), (.ref rO)])
        refine own_st (fun _ kq => Jvm.RoadKit.acmp (g := (mkF m 78 #[.val (.int p1), .val (.int (p1 &&& (3 : Int32))), .val (.ref rS), .val (.ref rO), .val (.ref rO)] [(.ref rO), (.ref rO)])) X18 hx rfl rfl rfl (pc0 := 78) (pc' := 81) (same := true) rfl (hb hby at_78) rfl (decide_eq_true rfl) (by decide) (by decide) kq) ?_
        show own_Ends _ _ _ _ _ _ _ T18 (mkF m 81 #[.val (.int p1), .val (.int (p1 &&& (3 : Int32))), .val (.ref rS), .val (.ref rO), .val (.ref rO)] [])
        refine own_st (fun _ kq => XS.aload X18.here hx rfl (hb hby at_81) rfl rfl kq) ?_
        show own_Ends _ _ _ _ _ _ _ T18 (mkF m 83 #[.val (.int p1), .val (.int (p1 &&& (3 : Int32))), .val (.ref rS), .val (.ref rO), .val (.ref rO)] [(.ref rO)])
        obtain ⟨cq19, kq19, q19a, q19b, q19c⟩ := isOf hZ e18 (E_O.ext O0.2)
        obtain ⟨_, _, ⟨T19, L19, k19, n19⟩, -, X19, ⟨Lc19, hQ19, l19, y19, z19⟩, st19⟩ := X18.virtualBack hx (y := (⟨"com/example/tessera/tessera/interpreter/CollectionValue$Kind", "isOrdered", "()Z"⟩ : MethodName)) (z := (⟨"com/example/tessera/tessera/interpreter/CollectionValue$Kind", "isOrdered", "()Z"⟩ : MethodName)) hown (mvT hZ (hw _ (List.mem_of_getElem? (i := 11) rfl))) (mvT hZ (hw _ (List.mem_of_getElem? (i := 12) rfl))) (notFace_of_selects (args := #[]) (mvT hZ (hw _ (List.mem_of_getElem? (i := 14) rfl)))) (mvT hZ (hw _ (List.mem_of_getElem? (i := 14) rfl))) (mvT hZ (hw _ (List.mem_of_getElem? (i := 13) rfl))) (by decide) (backOf (W := 0) (rm_iso l Z a0 hw [] rO (1 : Int32) rQ rB rS rO h0 n0 O0 (F_O_ordered.ext O0.2) G) hZ (hw _ (List.mem_of_getElem? (i := 15) rfl)) (hw _ (List.mem_of_getElem? (i := 1) rfl)) (by decide) (by decide)) q19a q19c (g := (mkF m 83 #[.val (.int p1), .val (.int (p1 &&& (3 : Int32))), .val (.ref rS), .val (.ref rO), .val (.ref rO)] [(.ref rO)])) rfl (by rw [hml]; rfl) (Steps.refl _) (argsL := []) (rest := []) (lenOf pd_1 rfl) rfl (by show 2 * 0 + _ ≤ _; exact Nat.le_of_eq rfl) (hb hby at_83) (fun _ _ => ⟨rfl, e18, (by decide : 0 + 0 ≤ _), (by decide : 0 + 0 ≤ _)⟩)
        dsimp only [Pt.U, Pt.locs, Pt.cells, Pt.slots] at X19 l19 y19 z19 st19 hQ19
        subst l19 y19 z19
        obtain ⟨rfl, N19q, e19⟩ := hQ19
        have N19 := Fr.app N18 N19q
        refine own_tr st19 ?_
        show own_Ends _ _ _ _ _ _ _ T19 (mkF m 86 #[.val (.int p1), .val (.int (p1 &&& (3 : Int32))), .val (.ref rS), .val (.ref rO), .val (.ref rO)] [(.int (1 : Int32))])
        refine own_st (fun _ kq => XS.ifNo X19.here hx rfl (hb hby at_86) rfl ((if0 _ _).trans (feq (by decide : ¬ ((1 : Int32) = (0 : Int32)))).1) kq) ?_
        show own_Ends _ _ _ _ _ _ _ T19 (mkF m 89 #[.val (.int p1), .val (.int (p1 &&& (3 : Int32))), .val (.ref rS), .val (.ref rO), .val (.ref rO)] [])
        refine own_st (fun _ kq => XS.aload X19.here hx rfl (hb hby at_89) rfl rfl kq) ?_
        show own_Ends _ _ _ _ _ _ _ T19 (mkF m 91 #[.val (.int p1), .val (.int (p1 &&& (3 : Int32))), .val (.ref rS), .val (.ref rO), .val (.ref rO)] [(.ref rO)])
        obtain ⟨cq20, kq20, q20a, q20b, q20c⟩ := isOf hZ e19 (E_O.ext O0.2)
        obtain ⟨_, _, ⟨T20, L20, k20, n20⟩, -, X20, ⟨Lc20, hQ20, l20, y20, z20⟩, st20⟩ := X19.virtualBack hx (y := (⟨"com/example/tessera/tessera/interpreter/CollectionValue$Kind", "isUnique", "()Z"⟩ : MethodName)) (z := (⟨"com/example/tessera/tessera/interpreter/CollectionValue$Kind", "isUnique", "()Z"⟩ : MethodName)) hown (mvT hZ (hw _ (List.mem_of_getElem? (i := 18) rfl))) (mvT hZ (hw _ (List.mem_of_getElem? (i := 19) rfl))) (notFace_of_selects (args := #[]) (mvT hZ (hw _ (List.mem_of_getElem? (i := 21) rfl)))) (mvT hZ (hw _ (List.mem_of_getElem? (i := 21) rfl))) (mvT hZ (hw _ (List.mem_of_getElem? (i := 20) rfl))) (by decide) (backOf (W := 0) (rm_isu l Z a0 hw [] rO (1 : Int32) rQ rB rS rO h0 n0 O0 (F_O_unique.ext O0.2) G) hZ (hw _ (List.mem_of_getElem? (i := 22) rfl)) (hw _ (List.mem_of_getElem? (i := 1) rfl)) (by decide) (by decide)) q20a q20c (g := (mkF m 91 #[.val (.int p1), .val (.int (p1 &&& (3 : Int32))), .val (.ref rS), .val (.ref rO), .val (.ref rO)] [(.ref rO)])) rfl (by rw [hml]; rfl) (Steps.refl _) (argsL := []) (rest := []) (lenOf pd_1 rfl) rfl (by show 2 * 0 + _ ≤ _; exact Nat.le_of_eq rfl) (hb hby at_91) (fun _ _ => ⟨rfl, e19, (by decide : 0 + 0 ≤ _), (by decide : 0 + 0 ≤ _)⟩)
        dsimp only [Pt.U, Pt.locs, Pt.cells, Pt.slots] at X20 l20 y20 z20 st20 hQ20
        subst l20 y20 z20
        obtain ⟨rfl, N20q, e20⟩ := hQ20
        have N20 := Fr.app N19 N20q
        refine own_tr st20 ?_
        show own_Ends _ _ _ _ _ _ _ T20 (mkF m 94 #[.val (.int p1), .val (.int (p1 &&& (3 : Int32))), .val (.ref rS), .val (.ref rO), .val (.ref rO)] [(.int (1 : Int32))])
        refine own_st (fun _ kq => XS.aloadN X20.here hx rfl (hb hby at_94) rfl rfl kq) ?_
        show own_Ends _ _ _ _ _ _ _ T20 (mkF m 95 #[.val (.int p1), .val (.int (p1 &&& (3 : Int32))), .val (.ref rS), .val (.ref rO), .val (.ref rO)] [(.ref rS), (.int (1 : Int32))])
        obtain ⟨cq21, kq21, q21a, q21b, q21c⟩ := isOf hZ e20 (E_S.ext O0.2)
        obtain ⟨_, _, ⟨T21, L21, k21, n21⟩, -, X21, ⟨Lc21, hQ21, l21, y21, z21⟩, st21⟩ := X20.virtualBack hx (y := (⟨"com/example/tessera/tessera/interpreter/CollectionValue$Kind", "isUnique", "()Z"⟩ : MethodName)) (z := (⟨"com/example/tessera/tessera/interpreter/CollectionValue$Kind", "isUnique", "()Z"⟩ : MethodName)) hown (mvT hZ (hw _ (List.mem_of_getElem? (i := 18) rfl))) (mvT hZ (hw _ (List.mem_of_getElem? (i := 19) rfl))) (notFace_of_selects (args := #[]) (mvT hZ (hw _ (List.mem_of_getElem? (i := 21) rfl)))) (mvT hZ (hw _ (List.mem_of_getElem? (i := 21) rfl))) (mvT hZ (hw _ (List.mem_of_getElem? (i := 20) rfl))) (by decide) (backOf (W := 1) (rm_isu l Z a0 hw [] rS (1 : Int32) rQ rB rS rO h0 n0 O0 (F_S_unique.ext O0.2) G) hZ (hw _ (List.mem_of_getElem? (i := 22) rfl)) (hw _ (List.mem_of_getElem? (i := 1) rfl)) (by decide) (by decide)) q21a q21c (g := (mkF m 95 #[.val (.int p1), .val (.int (p1 &&& (3 : Int32))), .val (.ref rS), .val (.ref rO), .val (.ref rO)] [(.ref rS), (.int (1 : Int32))])) rfl (by rw [hml]; rfl) (Steps.refl _) (argsL := []) (rest := [(.int (1 : Int32))]) (lenOf pd_1 rfl) rfl (by show 2 * 0 + _ ≤ _; exact Nat.le_of_eq rfl) (hb hby at_95) (fun _ _ => ⟨rfl, e20, (by decide : 0 + 0 ≤ _), (by decide : 0 + 0 ≤ _)⟩)
        dsimp only [Pt.U, Pt.locs, Pt.cells, Pt.slots] at X21 l21 y21 z21 st21 hQ21
        subst l21 y21 z21
        obtain ⟨rfl, N21q, e21⟩ := hQ21
        have N21 := Fr.app N20 N21q
        refine own_tr st21 ?_
        show own_Ends _ _ _ _ _ _ _ T21 (mkF m 98 #[.val (.int p1), .val (.int (p1 &&& (3 : Int32))), .val (.ref rS), .val (.ref rO), .val (.ref rO)] [(.int (1 : Int32)), (.int (1 : Int32))])
        refine own_st (fun _ kq => XS.icmpNo X21.here hx rfl (hb hby at_98) rfl (teq (by decide : (1 : Int32) = (1 : Int32))).2 kq) ?_
        show own_Ends _ _ _ _ _ _ _ T21 (mkF m 101 #[.val (.int p1), .val (.int (p1 &&& (3 : Int32))), .val (.ref rS), .val (.ref rO), .val (.ref rO)] [])
        refine own_st (fun _ kq => XS.iconst X21.here hx rfl (hb hby at_101) kq) ?_
        show own_Ends _ _ _ _ _ _ _ T21 (mkF m 102 #[.val (.int p1), .val (.int (p1 &&& (3 : Int32))), .val (.ref rS), .val (.ref rO), .val (.ref rO)] [(.int (1 : Int32))])
        refine own_st (fun _ kq => XS.goto X21.here hx rfl (pc0 := 102) (pc' := 106) rfl (hb hby at_102) (by decide) (by decide) kq) ?_
        show own_Ends _ _ _ _ _ _ _ T21 (mkF m 106 #[.val (.int p1), .val (.int (p1 &&& (3 : Int32))), .val (.ref rS), .val (.ref rO), .val (.ref rO)] [(.int (1 : Int32))])
        refine own_retN X21 hx (t := .boolean) Bd.returns (by simp) (hb hby at_106) hlk (by decide) (by decide) (w := (1 : Int32)) (by decide) ?_
        show Q_rm_law Z p1 rQ rB rS rO h0 n0 _ T21.heap _
        rw [e21]
        exact ⟨rfl, N21⟩
      · skip
        refine own_st (fun _ kq => XS.icmpYes X0.here hx rfl (pc0 := 37) (pc' := 51) rfl (hb hby at_37) rfl (feq hc37).2 (by decide) (by decide) kq) ?_
        show own_Ends _ _ _ _ _ _ _ s₁ (mkF m 51 #[.val (.int p1), .val (.int (p1 &&& (3 : Int32))), .unset, .unset, .unset] [])
        obtain ⟨T22, X22, e22, st22⟩ := getS2 X0 hx hZ hown (host := "") (Or.inl (hw _ (List.mem_of_getElem? (i := 23) rfl))) Via.refl e0 (S_B.ext O0.2) (g := (mkF m 51 #[.val (.int p1), .val (.int (p1 &&& (3 : Int32))), .unset, .unset, .unset] [])) rfl (hb hby at_51)
        refine own_st st22 ?_
        show own_Ends _ _ _ _ _ _ _ T22 (mkF m 54 #[.val (.int p1), .val (.int (p1 &&& (3 : Int32))), .unset, .unset, .unset] [(.ref rB)])
        refine own_st (fun _ kq => XS.astoreN X22.here hx rfl (hb hby at_54) rfl rfl (l' := #[.val (.int p1), .val (.int (p1 &&& (3 : Int32))), .val (.ref rB), .unset, .unset]) rfl kq) ?_
        show own_Ends _ _ _ _ _ _ _ T22 (mkF m 55 #[.val (.int p1), .val (.int (p1 &&& (3 : Int32))), .val (.ref rB), .unset, .unset] [])
        obtain ⟨T23, X23, e23, st23⟩ := getS2 X22 hx hZ hown (host := "") (Or.inl (hw _ (List.mem_of_getElem? (i := 0) rfl))) Via.refl e22 (S_Q.ext O0.2) (g := (mkF m 55 #[.val (.int p1), .val (.int (p1 &&& (3 : Int32))), .val (.ref rB), .unset, .unset] [])) rfl (hb hby at_55)
        refine own_st st23 ?_
        show own_Ends _ _ _ _ _ _ _ T23 (mkF m 58 #[.val (.int p1), .val (.int (p1 &&& (3 : Int32))), .val (.ref rB), .unset, .unset] [(.ref rQ)])
        refine own_st (fun _ kq => XS.astoreN X23.here hx rfl (hb hby at_58) rfl rfl (l' := #[.val (.int p1), .val (.int (p1 &&& (3 : Int32))), .val (.ref rB), .val (.ref rQ), .unset]) rfl kq) ?_
        show own_Ends _ _ _ _ _ _ _ T23 (mkF m 59 #[.val (.int p1), .val (.int (p1 &&& (3 : Int32))), .val (.ref rB), .val (.ref rQ), .unset] [])
        refine own_st (fun _ kq => XS.aloadN X23.here hx rfl (hb hby at_59) rfl rfl kq) ?_
        show own_Ends _ _ _ _ _ _ _ T23 (mkF m 60 #[.val (.int p1), .val (.int (p1 &&& (3 : Int32))), .val (.ref rB), .val (.ref rQ), .unset] [(.ref rB)])
        obtain ⟨cq24, kq24, q24a, q24b, q24c⟩ := isOf hZ e23 (E_B.ext O0.2)
        obtain ⟨_, _, ⟨T24, L24, k24, n24⟩, -, X24, ⟨Lc24, hQ24, l24, y24, z24⟩, st24⟩ := X23.virtualBack hx (y := (⟨"com/example/tessera/tessera/interpreter/CollectionValue$Kind", "ordered", "()Lcom/example/tessera/tessera/interpreter/CollectionValue$Kind;"⟩ : MethodName)) (z := (⟨"com/example/tessera/tessera/interpreter/CollectionValue$Kind", "ordered", "()Lcom/example/tessera/tessera/interpreter/CollectionValue$Kind;"⟩ : MethodName)) hown (mvT hZ (hw _ (List.mem_of_getElem? (i := 3) rfl))) (mvT hZ (hw _ (List.mem_of_getElem? (i := 4) rfl))) (notFace_of_selects (args := #[]) (mvT hZ (hw _ (List.mem_of_getElem? (i := 6) rfl)))) (mvT hZ (hw _ (List.mem_of_getElem? (i := 6) rfl))) (mvT hZ (hw _ (List.mem_of_getElem? (i := 5) rfl))) (by decide) (backOf (W := 0) (rm_ordered l Z a0 hw [] rB (0 : Int32) rQ rB rS rO h0 n0 O0 (F_B_unique.ext O0.2) G) hZ (hw _ (List.mem_of_getElem? (i := 7) rfl)) (hw _ (List.mem_of_getElem? (i := 1) rfl)) (by decide) (by decide)) q24a q24c (g := (mkF m 60 #[.val (.int p1), .val (.int (p1 &&& (3 : Int32))), .val (.ref rB), .val (.ref rQ), .unset] [(.ref rB)])) rfl (by rw [hml]; rfl) (Steps.refl _) (argsL := []) (rest := []) (lenOf pd_0 rfl) rfl (by show 2 * 0 + _ ≤ _; exact Nat.le_of_eq rfl) (hb hby at_60) (fun _ _ => ⟨rfl, e23, (by decide : 0 + 0 ≤ _), (by decide : 0 + 0 ≤ _)⟩)
        dsimp only [Pt.U, Pt.locs, Pt.cells, Pt.slots] at X24 l24 y24 z24 st24 hQ24
        subst l24 y24 z24
        obtain ⟨rfl, N24q, e24⟩ := hQ24
        have N24 := Fr.app N0 N24q
        refine own_tr st24 ?_
        show own_Ends _ _ _ _ _ _ _ T24 (mkF m 63 #[.val (.int p1), .val (.int (p1 &&& (3 : Int32))), .val (.ref rB), .val (.ref rQ), .unset] [(.ref rQ)])
        refine own_st (fun _ kq => XS.astore X24.here hx rfl (hb hby at_63) rfl rfl (l' := #[.val (.int p1), .val (.int (p1 &&& (3 : Int32))), .val (.ref rB), .val (.ref rQ), .val (.ref rQ)]) rfl kq) ?_
        show own_Ends _ _ _ _ _ _ _ T24 (mkF m 65 #[.val (.int p1), .val (.int (p1 &&& (3 : Int32))), .val (.ref rB), .val (.ref rQ), .val (.ref rQ)] [])
        refine own_st (fun _ kq => XS.aload X24.here hx rfl (hb hby at_65) rfl rfl kq) ?_
        show own_Ends _ _ _ _ _ _ _ T24 (mkF m 67 #[.val (.int p1), .val (.int (p1 &&& (3 : Int32))), .val (.ref rB), .val (.ref rQ), .val (.ref rQ)] [(.ref rQ)])
        refine own_st (fun _ kq => XS.aloadN X24.here hx rfl (hb hby at_67) rfl rfl kq) ?_
        show own_Ends _ _ _ _ _ _ _ T24 (mkF m 68 #[.val (.int p1), .val (.int (p1 &&& (3 : Int32))), .val (.ref rB), .val (.ref rQ), .val (.ref rQ)] [(.ref rQ), (.ref rQ)])
        refine own_st (fun _ kq => Jvm.RoadKit.acmp (g := (mkF m 68 #[.val (.int p1), .val (.int (p1 &&& (3 : Int32))), .val (.ref rB), .val (.ref rQ), .val (.ref rQ)] [(.ref rQ), (.ref rQ)])) X24 hx rfl rfl rfl (pc0 := 68) (pc' := 71) (same := true) rfl (hb hby at_68) rfl (decide_eq_true rfl) (by decide) (by decide) kq) ?_
        show own_Ends _ _ _ _ _ _ _ T24 (mkF m 71 #[.val (.int p1), .val (.int (p1 &&& (3 : Int32))), .val (.ref rB), .val (.ref rQ), .val (.ref rQ)] [])
        refine own_st (fun _ kq => XS.aload X24.here hx rfl (hb hby at_71) rfl rfl kq) ?_
        show own_Ends _ _ _ _ _ _ _ T24 (mkF m 73 #[.val (.int p1), .val (.int (p1 &&& (3 : Int32))), .val (.ref rB), .val (.ref rQ), .val (.ref rQ)] [(.ref rQ)])
        obtain ⟨cq25, kq25, q25a, q25b, q25c⟩ := isOf hZ e24 (E_Q.ext O0.2)
        obtain ⟨_, _, ⟨T25, L25, k25, n25⟩, -, X25, ⟨Lc25, hQ25, l25, y25, z25⟩, st25⟩ := X24.virtualBack hx (y := (⟨"com/example/tessera/tessera/interpreter/CollectionValue$Kind", "ordered", "()Lcom/example/tessera/tessera/interpreter/CollectionValue$Kind;"⟩ : MethodName)) (z := (⟨"com/example/tessera/tessera/interpreter/CollectionValue$Kind", "ordered", "()Lcom/example/tessera/tessera/interpreter/CollectionValue$Kind;"⟩ : MethodName)) hown (mvT hZ (hw _ (List.mem_of_getElem? (i := 3) rfl))) (mvT hZ (hw _ (List.mem_of_getElem? (i := 4) rfl))) (notFace_of_selects (args := #[]) (mvT hZ (hw _ (List.mem_of_getElem? (i := 6) rfl)))) (mvT hZ (hw _ (List.mem_of_getElem? (i := 6) rfl))) (mvT hZ (hw _ (List.mem_of_getElem? (i := 5) rfl))) (by decide) (backOf (W := 0) (rm_ordered l Z a0 hw [] rQ (0 : Int32) rQ rB rS rO h0 n0 O0 (F_Q_unique.ext O0.2) G) hZ (hw _ (List.mem_of_getElem? (i := 7) rfl)) (hw _ (List.mem_of_getElem? (i := 1) rfl)) (by decide) (by decide)) q25a q25c (g := (mkF m 73 #[.val (.int p1), .val (.int (p1 &&& (3 : Int32))), .val (.ref rB), .val (.ref rQ), .val (.ref rQ)] [(.ref rQ)])) rfl (by rw [hml]; rfl) (Steps.refl _) (argsL := []) (rest := []) (lenOf pd_0 rfl) rfl (by show 2 * 0 + _ ≤ _; exact Nat.le_of_eq rfl) (hb hby at_73) (fun _ _ => ⟨rfl, e24, (by decide : 0 + 0 ≤ _), (by decide : 0 + 0 ≤ _)⟩)
        dsimp only [Pt.U, Pt.locs, Pt.cells, Pt.slots] at X25 l25 y25 z25 st25 hQ25
        subst l25 y25 z25
        obtain ⟨rfl, N25q, e25⟩ := hQ25
        have N25 := Fr.app N24 N25q
        refine own_tr st25 ?_
        show own_Ends _ _ _ _ _ _ _ T25 (mkF m 76 #[.val (.int p1), .val (.int (p1 &&& (3 : Int32))), .val (.ref rB), .val (.ref rQ), .val (.ref rQ)] [(.ref rQ)])
        refine own_st (fun _ kq => XS.aload X25.here hx rfl (hb hby at_76) rfl rfl kq) ?_
        show own_Ends _ _ _ _ _ _ _ T25 (mkF m 78 #[.val (.int p1), .val (.int (p1 &&& (3 : Int32))), .val (.ref rB), .val (.ref rQ), .val (.ref rQ)] [(.ref rQ), (.ref rQ)])
        refine own_st (fun _ kq => Jvm.RoadKit.acmp (g := (mkF m 78 #[.val (.int p1), .val (.int (p1 &&& (3 : Int32))), .val (.ref rB), .val (.ref rQ), .val (.ref rQ)] [(.ref rQ), (.ref rQ)])) X25 hx rfl rfl rfl (pc0 := 78) (pc' := 81) (same := true) rfl (hb hby at_78) rfl (decide_eq_true rfl) (by decide) (by decide) kq) ?_
        show own_Ends _ _ _ _ _ _ _ T25 (mkF m 81 #[.val (.int p1), .val (.int (p1 &&& (3 : Int32))), .val (.ref rB), .val (.ref rQ), .val (.ref rQ)] [])
        refine own_st (fun _ kq => XS.aload X25.here hx rfl (hb hby at_81) rfl rfl kq) ?_
        show own_Ends _ _ _ _ _ _ _ T25 (mkF m 83 #[.val (.int p1), .val (.int (p1 &&& (3 : Int32))), .val (.ref rB), .val (.ref rQ), .val (.ref rQ)] [(.ref rQ)])
        obtain ⟨cq26, kq26, q26a, q26b, q26c⟩ := isOf hZ e25 (E_Q.ext O0.2)
        obtain ⟨_, _, ⟨T26, L26, k26, n26⟩, -, X26, ⟨Lc26, hQ26, l26, y26, z26⟩, st26⟩ := X25.virtualBack hx (y := (⟨"com/example/tessera/tessera/interpreter/CollectionValue$Kind", "isOrdered", "()Z"⟩ : MethodName)) (z := (⟨"com/example/tessera/tessera/interpreter/CollectionValue$Kind", "isOrdered", "()Z"⟩ : MethodName)) hown (mvT hZ (hw _ (List.mem_of_getElem? (i := 11) rfl))) (mvT hZ (hw _ (List.mem_of_getElem? (i := 12) rfl))) (notFace_of_selects (args := #[]) (mvT hZ (hw _ (List.mem_of_getElem? (i := 14) rfl)))) (mvT hZ (hw _ (List.mem_of_getElem? (i := 14) rfl))) (mvT hZ (hw _ (List.mem_of_getElem? (i := 13) rfl))) (by decide) (backOf (W := 0) (rm_iso l Z a0 hw [] rQ (1 : Int32) rQ rB rS rO h0 n0 O0 (F_Q_ordered.ext O0.2) G) hZ (hw _ (List.mem_of_getElem? (i := 15) rfl)) (hw _ (List.mem_of_getElem? (i := 1) rfl)) (by decide) (by decide)) q26a q26c (g := (mkF m 83 #[.val (.int p1), .val (.int (p1 &&& (3 : Int32))), .val (.ref rB), .val (.ref rQ), .val (.ref rQ)] [(.ref rQ)])) rfl (by rw [hml]; rfl) (Steps.refl _) (argsL := []) (rest := []) (lenOf pd_1 rfl) rfl (by show 2 * 0 + _ ≤ _; exact Nat.le_of_eq rfl) (hb hby at_83) (fun _ _ => ⟨rfl, e25, (by decide : 0 + 0 ≤ _), (by decide : 0 + 0 ≤ _)⟩)
        dsimp only [Pt.U, Pt.locs, Pt.cells, Pt.slots] at X26 l26 y26 z26 st26 hQ26
        subst l26 y26 z26
        obtain ⟨rfl, N26q, e26⟩ := hQ26
        have N26 := Fr.app N25 N26q
        refine own_tr st26 ?_
        show own_Ends _ _ _ _ _ _ _ T26 (mkF m 86 #[.val (.int p1), .val (.int (p1 &&& (3 : Int32))), .val (.ref rB), .val (.ref rQ), .val (.ref rQ)] [(.int (1 : Int32))])
        refine own_st (fun _ kq => XS.ifNo X26.here hx rfl (hb hby at_86) rfl ((if0 _ _).trans (feq (by decide : ¬ ((1 : Int32) = (0 : Int32)))).1) kq) ?_
        show own_Ends _ _ _ _ _ _ _ T26 (mkF m 89 #[.val (.int p1), .val (.int (p1 &&& (3 : Int32))), .val (.ref rB), .val (.ref rQ), .val (.ref rQ)] [])
        refine own_st (fun _ kq => XS.aload X26.here hx rfl (hb hby at_89) rfl rfl kq) ?_
        show own_Ends _ _ _ _ _ _ _ T26 (mkF m 91 #[.val (.int p1), .val (.int (p1 &&& (3 : Int32))), .val (.ref rB), .val (.ref rQ), .val (.ref rQ)] [(.ref rQ)])
        obtain ⟨cq27, kq27, q27a, q27b, q27c⟩ := isOf hZ e26 (E_Q.ext O0.2)
        obtain ⟨_, _, ⟨T27, L27, k27, n27⟩, -, X27, ⟨Lc27, hQ27, l27, y27, z27⟩, st27⟩ := X26.virtualBack hx (y := (⟨"com/example/tessera/tessera/interpreter/CollectionValue$Kind", "isUnique", "()Z"⟩ : MethodName)) (z := (⟨"com/example/tessera/tessera/interpreter/CollectionValue$Kind", "isUnique", "()Z"⟩ : MethodName)) hown (mvT hZ (hw _ (List.mem_of_getElem? (i := 18) rfl))) (mvT hZ (hw _ (List.mem_of_getElem? (i := 19) rfl))) (notFace_of_selects (args := #[]) (mvT hZ (hw _ (List.mem_of_getElem? (i := 21) rfl)))) (mvT hZ (hw _ (List.mem_of_getElem? (i := 21) rfl))) (mvT hZ (hw _ (List.mem_of_getElem? (i := 20) rfl))) (by decide) (backOf (W := 0) (rm_isu l Z a0 hw [] rQ (0 : Int32) rQ rB rS rO h0 n0 O0 (F_Q_unique.ext O0.2) G) hZ (hw _ (List.mem_of_getElem? (i := 22) rfl)) (hw _ (List.mem_of_getElem? (i := 1) rfl)) (by decide) (by decide)) q27a q27c (g := (mkF m 91 #[.val (.int p1), .val (.int (p1 &&& (3 : Int32))), .val (.ref rB), .val (.ref rQ), .val (.ref rQ)] [(.ref rQ)])) rfl (by rw [hml]; rfl) (Steps.refl _) (argsL := []) (rest := []) (lenOf pd_1 rfl) rfl (by show 2 * 0 + _ ≤ _; exact Nat.le_of_eq rfl) (hb hby at_91) (fun _ _ => ⟨rfl, e26, (by decide : 0 + 0 ≤ _), (by decide : 0 + 0 ≤ _)⟩)
        dsimp only [Pt.U, Pt.locs, Pt.cells, Pt.slots] at X27 l27 y27 z27 st27 hQ27
        subst l27 y27 z27
        obtain ⟨rfl, N27q, e27⟩ := hQ27
        have N27 := Fr.app N26 N27q
        refine own_tr st27 ?_
        show own_Ends _ _ _ _ _ _ _ T27 (mkF m 94 #[.val (.int p1), .val (.int (p1 &&& (3 : Int32))), .val (.ref rB), .val (.ref rQ), .val (.ref rQ)] [(.int (0 : Int32))])
        refine own_st (fun _ kq => XS.aloadN X27.here hx rfl (hb hby at_94) rfl rfl kq) ?_
        show own_Ends _ _ _ _ _ _ _ T27 (mkF m 95 #[.val (.int p1), .val (.int (p1 &&& (3 : Int32))), .val (.ref rB), .val (.ref rQ), .val (.ref rQ)] [(.ref rB), (.int (0 : Int32))])
        obtain ⟨cq28, kq28, q28a, q28b, q28c⟩ := isOf hZ e27 (E_B.ext O0.2)
        obtain ⟨_, _, ⟨T28, L28, k28, n28⟩, -, X28, ⟨Lc28, hQ28, l28, y28, z28⟩, st28⟩ := X27.virtualBack hx (y := (⟨"com/example/tessera/tessera/interpreter/CollectionValue$Kind", "isUnique", "()Z"⟩ : MethodName)) (z := (⟨"com/example/tessera/tessera/interpreter/CollectionValue$Kind", "isUnique", "()Z"⟩ : MethodName)) hown (mvT hZ (hw _ (List.mem_of_getElem? (i := 18) rfl))) (mvT hZ (hw _ (List.mem_of_getElem? (i := 19) rfl))) (notFace_of_selects (args := #[]) (mvT hZ (hw _ (List.mem_of_getElem? (i := 21) rfl)))) (mvT hZ (hw _ (List.mem_of_getElem? (i := 21) rfl))) (mvT hZ (hw _ (List.mem_of_getElem? (i := 20) rfl))) (by decide) (backOf (W := 1) (rm_isu l Z a0 hw [] rB (0 : Int32) rQ rB rS rO h0 n0 O0 (F_B_unique.ext O0.2) G) hZ (hw _ (List.mem_of_getElem? (i := 22) rfl)) (hw _ (List.mem_of_getElem? (i := 1) rfl)) (by decide) (by decide)) q28a q28c (g := (mkF m 95 #[.val (.int p1), .val (.int (p1 &&& (3 : Int32))), .val (.ref rB), .val (.ref rQ), .val (.ref rQ)] [(.ref rB), (.int (0 : Int32))])) rfl (by rw [hml]; rfl) (Steps.refl _) (argsL := []) (rest := [(.int (0 : Int32))]) (lenOf pd_1 rfl) rfl (by show 2 * 0 + _ ≤ _; exact Nat.le_of_eq rfl) (hb hby at_95) (fun _ _ => ⟨rfl, e27, (by decide : 0 + 0 ≤ _), (by decide : 0 + 0 ≤ _)⟩)
        dsimp only [Pt.U, Pt.locs, Pt.cells, Pt.slots] at X28 l28 y28 z28 st28 hQ28
        subst l28 y28 z28
        obtain ⟨rfl, N28q, e28⟩ := hQ28
        have N28 := Fr.app N27 N28q
        refine own_tr st28 ?_
        show own_Ends _ _ _ _ _ _ _ T28 (mkF m 98 #[.val (.int p1), .val (.int (p1 &&& (3 : Int32))), .val (.ref rB), .val (.ref rQ), .val (.ref rQ)] [(.int (0 : Int32)), (.int (0 : Int32))])
        refine own_st (fun _ kq => XS.icmpNo X28.here hx rfl (hb hby at_98) rfl (teq (by decide : (0 : Int32) = (0 : Int32))).2 kq) ?_
        show own_Ends _ _ _ _ _ _ _ T28 (mkF m 101 #[.val (.int p1), .val (.int (p1 &&& (3 : Int32))), .val (.ref rB), .val (.ref rQ), .val (.ref rQ)] [])
        refine own_st (fun _ kq => XS.iconst X28.here hx rfl (hb hby at_101) kq) ?_
        show own_Ends _ _ _ _ _ _ _ T28 (mkF m 102 #[.val (.int p1), .val (.int (p1 &&& (3 : Int32))), .val (.ref rB), .val (.ref rQ), .val (.ref rQ)] [(.int (1 : Int32))])
        refine own_st (fun _ kq => XS.goto X28.here hx rfl (pc0 := 102) (pc' := 106) rfl (hb hby at_102) (by decide) (by decide) kq) ?_
        show own_Ends _ _ _ _ _ _ _ T28 (mkF m 106 #[.val (.int p1), .val (.int (p1 &&& (3 : Int32))), .val (.ref rB), .val (.ref rQ), .val (.ref rQ)] [(.int (1 : Int32))])
        refine own_retN X28 hx (t := .boolean) Bd.returns (by simp) (hb hby at_106) hlk (by decide) (by decide) (w := (1 : Int32)) (by decide) ?_
        show Q_rm_law Z p1 rQ rB rS rO h0 n0 _ T28.heap _
        rw [e28]
        exact ⟨rfl, N28⟩
set_option maxRecDepth 65536 in
set_option maxHeartbeats 40000000 in
theorem comes_1 {Post : Tables → Env → Array Value → State → Outcome → State → Prop} (hpost : ∀ tb e args s v u, (limb_1_1.after args s (.returned v) u = true ∧ limb_1_2.after args s (.returned v) u = true ∧ True) → FrameEnd s (.returned v) u (Jvm.fieldLocs frame_1_writes args s ++ Jvm.arrayLocs frame_1_arrays args s ++ Jvm.staticLocs frame_1_statics s) 0 0 → Post tb e args s (.returned v) u) :
    ArmFor flags0 classFile x code maxLocals ret World_1 tables_1 room_1 Calls_1 rest_1 Pre_1 Post := by
  intro l hfl _ _ p e ha hc hk s m args below hf hA hF happ hP
  obtain ⟨hcalls, hrest, hpre⟩ := hP
  obtain ⟨-, -, -, hnamed, -, -, -, hat⟩ := (Spec.applies_iff hf).mp happ
  obtain ⟨hg, hn⟩ := and_e (Cond.before_iff.mp (show (Jvm.Cond.and given_1 narrow_1).before args s = true from hpre))
  obtain ⟨g0, hg⟩ := and_e hg
  have g1 := hg
  obtain ⟨w0, rfl⟩ : ∃ w0 : Value, args = #[w0] := by
    have hs : args.size = 1 := by simpa [Cond.value, given_1] using g0
    obtain ⟨L⟩ := args
    match L, hs with
    | [w0], _ => exact ⟨w0, rfl⟩
  have hw := fun d (hd : d ∈ tables_1) => atoms_spec (ws := Jvm.Cond.code x code maxLocals ret :: tables_1) hat d (List.mem_cons_of_mem _ hd)
  obtain ⟨i0, ei0⟩ := is_v g1
  obtain rfl : w0 = (.int i0) := Option.some.inj ei0
  obtain ⟨c0, hn⟩ := and_e hn
  obtain ⟨c1, hn⟩ := and_e hn
  obtain ⟨c2, hn⟩ := and_e hn
  obtain ⟨c3, hn⟩ := and_e hn
  obtain ⟨c4, hn⟩ := and_e hn
  obtain ⟨c5, hn⟩ := and_e hn
  obtain ⟨c6, hn⟩ := and_e hn
  obtain ⟨c7, hn⟩ := and_e hn
  obtain ⟨c8, hn⟩ := and_e hn
  obtain ⟨c9, hn⟩ := and_e hn
  obtain ⟨c10, hn⟩ := and_e hn
  have c11 := hn
  obtain ⟨rQ, v_Q⟩ := exa_v c0
  have E_Q := Exa.start v_Q c0
  have S_Q := Sta.start v_Q (Or.inr ⟨(hw _ (List.mem_of_getElem? (i := 1) rfl)), (hw _ (List.mem_of_getElem? (i := 2) rfl))⟩)
  obtain ⟨rB, v_B⟩ := exa_v c3
  have E_B := Exa.start v_B c3
  have S_B := Sta.start v_B (Or.inr ⟨(hw _ (List.mem_of_getElem? (i := 1) rfl)), (hw _ (List.mem_of_getElem? (i := 24) rfl))⟩)
  obtain ⟨rS, v_S⟩ := exa_v c5
  have E_S := Exa.start v_S c5
  have S_S := Sta.start v_S (Or.inr ⟨(hw _ (List.mem_of_getElem? (i := 1) rfl)), (hw _ (List.mem_of_getElem? (i := 26) rfl))⟩)
  obtain ⟨rO, v_O⟩ := exa_v c6
  have E_O := Exa.start v_O c6
  have S_O := Sta.start v_O (Or.inr ⟨(hw _ (List.mem_of_getElem? (i := 1) rfl)), (hw _ (List.mem_of_getElem? (i := 28) rfl))⟩)
  have F_Q_unique := own_fldI v_Q c1
  have F_Q_ordered := own_fldI v_Q c2
  have F_B_unique := own_fldI v_B c4
  have F_S_unique := own_fldI v_S c7
  have F_O_unique := own_fldI v_O c8
  have F_O_ordered := own_fldI v_O c9
  have F_B_ordered := own_fldI v_B c10
  have F_S_ordered := own_fldI v_S c11
  have G : own_W s rQ rB rS rO := ⟨S_Q, E_Q, S_B, E_B, S_S, E_S, S_O, E_O, F_Q_unique, F_Q_ordered, F_B_unique, F_S_unique, F_O_unique, F_O_ordered, F_B_ordered, F_S_ordered⟩
  obtain ⟨n, o, h1, h2, h3, _, L, rfl, ⟨rfl, N⟩, hq⟩ := rm_law l s _ hw tables_1 i0 rQ rB rS rO s.heap s.heap.size (Old.start s) G p e ha hc hk s m _ below hf ((Spec.applies_iff_loose hf).mp happ).1 ⟨rfl, State.Warmed39.refl s, rfl⟩ trivial
  refine ⟨n, _, h1, h2, h3, hpost _ _ _ _ _ _ ⟨Cond.after_iff.mpr rfl, Cond.after_iff.mpr (eq_i res_at (Term.int_eval (1)) rfl), trivial⟩ ⟨hq.1, hq.2.1, (hq.2.2.sift fun y hy => Or.inr (N y hy)).mono (by decide) (by decide)⟩⟩
theorem main_1_1 : Claimed_1_1 := comes_1 fun _ _ _ _ _ _ h hF => ⟨h.1, hF⟩
theorem main_1_2 : Claimed_1_2 := comes_1 fun _ _ _ _ _ _ h hF => ⟨h.2.1, hF⟩
end Jvm.Pilot.@@N@@
namespace Jvm.Pilot.@@N@@
open Jvm Jvm.ClassFile Sem Op Lib Jvm.Free Jvm.Stand Jvm.Pilot.@@N@@.Jvm.D
/-! MADE BY PROGRAM (witnessworld.py) out of the Statement's table words and the real class files: 12 classes; the members and pool entries that the words name. The judged class is class 1, her method 1. -/
namespace start1
open Jvm.ClassFile
def u (s : String) : CpInfo := .utf8 (stringToUtf16 s)
/-- a pool by its gaps: so many unusable entries, then the entry; so many at the end -/
def gap : Nat → List CpInfo → List CpInfo
  | 0, r => r
  | n + 1, r => .unusable :: gap n r
def poolList (es : List (Nat × CpInfo)) (last : Nat) : List CpInfo := es.foldr (fun e r => gap e.1 (e.2 :: r)) (gap last [])
def pool (es : List (Nat × CpInfo)) (last : Nat) : Array CpInfo := ⟨poolList es last⟩
def fileOf (pool : Array CpInfo) (this : Nat) (attrs : Array Attribute := #[]) (ms : Array MethodInfo := #[]) (fl : Nat := 33) (sup : Nat := 0) (ifs : Array Nat := #[]) (fds : Array FieldInfo := #[]) : ClassFile where
  minorVersion := 0
  majorVersion := 65
  constantPool := pool
  accessFlags := fl
  thisClass := this
  superClass := sup
  interfaces := ifs
  fields := fds
  methods := ms
  attributes := attrs
def plain (name : String) (sup : Option ClassId) : Class where
  name := name
  kind := .ordinary
  loader := none
  accessFlags := 33
  super := sup
  interfaces := #[]
  cf := none
  fields := #[]
  methods := #[]
  instanceTypes := #[]
  staticTypes := #[]
  resolved := #[]
  callSites := []
  init := .initialized
  statics := none
  mirror := none

def pool0 : Array CpInfo := pool [(5, u "<init>"), (0, u "()V"), (1, .class_ 10), (1, u "java/lang/Object")] 113

def k0m0 : Method := { name := "<init>", desc := "()V", sig := { parameters := [], returnType := none }, accessFlags := 1, code := none }
/-- java/lang/Object -/
def k0 : Class := { plain "java/lang/Object" none with
  accessFlags := 33
  interfaces := #[]
  cf := some (fileOf pool0 8 #[] #[{ accessFlags := 1, nameIndex := 5, descriptorIndex := 6, attributes := #[] }] 33 0 #[] #[])
  fields := #[]
  methods := #[k0m0]
  instanceTypes := #[]
  staticTypes := #[]
  resolved := Array.replicate 124 none
  statics := none }

def pool1 : Array CpInfo := pool [(2, .class_ 4), (1, u "java/lang/Object"), (0, u "<init>"), (0, u "()V"), (0, .fieldref 8 9), (0, .class_ 10), (0, .nameAndType 11 12), (0, u "com/example/tessera/tessera/interpreter/CollectionValue$Kind"), (0, u "SEQUENCE"), (0, u "Lcom/example/tessera/tessera/interpreter/CollectionValue$Kind;"), (0, .fieldref 8 14), (0, .nameAndType 15 12), (0, u "ORDERED_SET"), (0, .fieldref 8 17), (0, .nameAndType 18 12), (0, u "SET"), (0, .fieldref 8 20), (0, .nameAndType 21 12), (0, u "BAG"), (0, .methodref 8 23), (0, .nameAndType 24 25), (0, u "ordered"), (0, u "()Lcom/example/tessera/tessera/interpreter/CollectionValue$Kind;"), (0, .methodref 8 27), (0, .nameAndType 28 29), (0, u "isOrdered"), (0, u "()Z"), (0, .methodref 8 31), (0, .nameAndType 32 29), (0, u "isUnique"), (0, .class_ 34), (0, u "com/example/tessera/tessera/interpreter/KindOrderedPinLaw"), (2, u "law"), (0, u "(I)Z")] 7

def k1m0 : Method := { name := "<init>", desc := "()V", sig := { parameters := [], returnType := none }, accessFlags := 2, code := none }
def k1c1 : Code := { maxStack := 2, maxLocals := 5, code := code, exceptionTable := #[], attributes := #[] }
def k1m1 : Method := { name := "law", desc := "(I)Z", sig := { parameters := [.int], returnType := some .boolean }, accessFlags := 9, code := some k1c1 }
/-- com/example/tessera/tessera/interpreter/KindOrderedPinLaw -/
def k1 : Class := { plain "com/example/tessera/tessera/interpreter/KindOrderedPinLaw" (some 0) with
  accessFlags := 49
  interfaces := #[]
  cf := some (fileOf pool1 33 #[] #[{ accessFlags := 2, nameIndex := 5, descriptorIndex := 6, attributes := #[] }, { accessFlags := 9, nameIndex := 37, descriptorIndex := 38, attributes := #[] }] 49 2 #[] #[])
  fields := #[]
  methods := #[k1m0, k1m1]
  instanceTypes := #[]
  staticTypes := #[]
  resolved := Array.replicate 46 none
  statics := none }

def pool2 : Array CpInfo := pool [(1, .class_ 2), (0, u "java/lang/constant/Constable"), (0, .class_ 4), (0, u "java/lang/Object")] 6

/-- java/lang/constant/Constable -/
def k2 : Class := { plain "java/lang/constant/Constable" (some 0) with
  accessFlags := 1537
  interfaces := #[]
  cf := some (fileOf pool2 1 #[] #[] 1537 3 #[] #[])
  fields := #[]
  methods := #[]
  instanceTypes := #[]
  staticTypes := #[]
  resolved := Array.replicate 11 none
  statics := none }

def pool3 : Array CpInfo := pool [(1, .class_ 2), (0, u "java/lang/Comparable"), (0, .class_ 4), (0, u "java/lang/Object")] 7

/-- java/lang/Comparable -/
def k3 : Class := { plain "java/lang/Comparable" (some 0) with
  accessFlags := 1537
  interfaces := #[]
  cf := some (fileOf pool3 1 #[] #[] 1537 3 #[] #[])
  fields := #[]
  methods := #[]
  instanceTypes := #[]
  staticTypes := #[]
  resolved := Array.replicate 12 none
  statics := none }

def pool4 : Array CpInfo := pool [(1, .class_ 2), (0, u "java/io/Serializable"), (0, .class_ 4), (0, u "java/lang/Object")] 2

/-- java/io/Serializable -/
def k4 : Class := { plain "java/io/Serializable" (some 0) with
  accessFlags := 1537
  interfaces := #[]
  cf := some (fileOf pool4 1 #[] #[] 1537 3 #[] #[])
  fields := #[]
  methods := #[]
  instanceTypes := #[]
  staticTypes := #[]
  resolved := Array.replicate 7 none
  statics := none }

def pool5 : Array CpInfo := pool [(2, .class_ 4), (1, u "java/lang/Enum"), (0, u "name"), (0, u "Ljava/lang/String;"), (2, u "ordinal"), (0, u "I"), (1, .class_ 14), (1, u "java/lang/Object"), (4, u "hash"), (86, .class_ 108), (1, u "java/lang/Enum$EnumDesc"), (2, .class_ 112), (0, u "java/lang/constant/Constable"), (0, .class_ 114), (0, u "java/lang/Comparable"), (0, .class_ 116), (0, u "java/io/Serializable")] 87

/-- java/lang/Enum -/
def k5 : Class := { plain "java/lang/Enum" (some 0) with
  accessFlags := 1057
  interfaces := #[2, 3, 4]
  cf := some (fileOf pool5 2 #[.nestMembers #[106]] #[] 1057 12 #[111, 113, 115] #[{ accessFlags := 18, nameIndex := 5, descriptorIndex := 6, attributes := #[] }, { accessFlags := 18, nameIndex := 9, descriptorIndex := 10, attributes := #[] }, { accessFlags := 2, nameIndex := 19, descriptorIndex := 10, attributes := #[] }])
  fields := #[{ name := "name", type := (.object "java/lang/String"), accessFlags := 18, slot := 0, constantValue := 0 }, { name := "ordinal", type := .int, accessFlags := 18, slot := 1, constantValue := 0 }, { name := "hash", type := .int, accessFlags := 2, slot := 2, constantValue := 0 }]
  methods := #[]
  instanceTypes := #[(.object "java/lang/String"), .int, .int]
  staticTypes := #[]
  resolved := Array.replicate 204 none
  statics := none }

def pool6 : Array CpInfo := pool [(1, .class_ 2), (0, u "com/example/tessera/tessera/interpreter/CollectionValue$Kind"), (0, .fieldref 1 4), (0, .nameAndType 5 6), (0, u "SEQUENCE"), (0, u "Lcom/example/tessera/tessera/interpreter/CollectionValue$Kind;"), (0, .fieldref 1 8), (0, .nameAndType 9 6), (0, u "ORDERED_SET"), (2, u "SET"), (2, u "BAG"), (2, u "$VALUES"), (0, u "[Lcom/example/tessera/tessera/interpreter/CollectionValue$Kind;"), (6, .class_ 28), (1, u "java/lang/Enum"), (8, u "type"), (0, u "Lcom/example/tessera/tessera/interpreter/Type;"), (0, .fieldref 1 40), (0, .nameAndType 41 42), (0, u "ordered"), (0, u "Z"), (0, .fieldref 1 44), (0, .nameAndType 45 42), (0, u "unique"), (4, u "isOrdered"), (0, u "()Z"), (2, u "isUnique"), (32, u "()Lcom/example/tessera/tessera/interpreter/CollectionValue$Kind;"), (10, .class_ 99), (0, u "com/example/tessera/tessera/interpreter/CollectionValue")] 2

def k6c0 : Code := { maxStack := 1, maxLocals := 1, code := prog_50_method_5_code, exceptionTable := #[], attributes := #[] }
def k6m0 : Method := { name := "isOrdered", desc := "()Z", sig := { parameters := [], returnType := some .boolean }, accessFlags := 0, code := some k6c0 }
def k6c1 : Code := { maxStack := 1, maxLocals := 1, code := prog_50_method_6_code, exceptionTable := #[], attributes := #[] }
def k6m1 : Method := { name := "isUnique", desc := "()Z", sig := { parameters := [], returnType := some .boolean }, accessFlags := 0, code := some k6c1 }
def k6c2 : Code := { maxStack := 1, maxLocals := 1, code := prog_50_method_8_code, exceptionTable := #[], attributes := #[] }
def k6m2 : Method := { name := "ordered", desc := "()Lcom/example/tessera/tessera/interpreter/CollectionValue$Kind;", sig := { parameters := [], returnType := some (.object "com/example/tessera/tessera/interpreter/CollectionValue$Kind") }, accessFlags := 0, code := some k6c2 }
/-- com/example/tessera/tessera/interpreter/CollectionValue$Kind -/
def k6 : Class := { plain "com/example/tessera/tessera/interpreter/CollectionValue$Kind" (some 5) with
  accessFlags := 16432
  interfaces := #[]
  cf := some (fileOf pool6 1 #[.nestHost 98] #[{ accessFlags := 0, nameIndex := 50, descriptorIndex := 51, attributes := #[] }, { accessFlags := 0, nameIndex := 54, descriptorIndex := 51, attributes := #[] }, { accessFlags := 0, nameIndex := 41, descriptorIndex := 87, attributes := #[] }] 16432 26 #[] #[{ accessFlags := 16409, nameIndex := 5, descriptorIndex := 6, attributes := #[] }, { accessFlags := 16409, nameIndex := 9, descriptorIndex := 6, attributes := #[] }, { accessFlags := 16409, nameIndex := 12, descriptorIndex := 6, attributes := #[] }, { accessFlags := 16409, nameIndex := 15, descriptorIndex := 6, attributes := #[] }, { accessFlags := 18, nameIndex := 37, descriptorIndex := 38, attributes := #[] }, { accessFlags := 18, nameIndex := 41, descriptorIndex := 42, attributes := #[] }, { accessFlags := 18, nameIndex := 45, descriptorIndex := 42, attributes := #[] }, { accessFlags := 4122, nameIndex := 18, descriptorIndex := 19, attributes := #[] }])
  fields := #[{ name := "SEQUENCE", type := (.object "com/example/tessera/tessera/interpreter/CollectionValue$Kind"), accessFlags := 16409, slot := 0, constantValue := 0 }, { name := "ORDERED_SET", type := (.object "com/example/tessera/tessera/interpreter/CollectionValue$Kind"), accessFlags := 16409, slot := 1, constantValue := 0 }, { name := "SET", type := (.object "com/example/tessera/tessera/interpreter/CollectionValue$Kind"), accessFlags := 16409, slot := 2, constantValue := 0 }, { name := "BAG", type := (.object "com/example/tessera/tessera/interpreter/CollectionValue$Kind"), accessFlags := 16409, slot := 3, constantValue := 0 }, { name := "type", type := (.object "com/example/tessera/tessera/interpreter/Type"), accessFlags := 18, slot := 3, constantValue := 0 }, { name := "ordered", type := .boolean, accessFlags := 18, slot := 4, constantValue := 0 }, { name := "unique", type := .boolean, accessFlags := 18, slot := 5, constantValue := 0 }, { name := "$VALUES", type := (.array (.object "com/example/tessera/tessera/interpreter/CollectionValue$Kind")), accessFlags := 4122, slot := 4, constantValue := 0 }]
  methods := #[k6m0, k6m1, k6m2]
  instanceTypes := #[(.object "java/lang/String"), .int, .int, (.object "com/example/tessera/tessera/interpreter/Type"), .boolean, .boolean]
  staticTypes := #[(.object "com/example/tessera/tessera/interpreter/CollectionValue$Kind"), (.object "com/example/tessera/tessera/interpreter/CollectionValue$Kind"), (.object "com/example/tessera/tessera/interpreter/CollectionValue$Kind"), (.object "com/example/tessera/tessera/interpreter/CollectionValue$Kind"), (.array (.object "com/example/tessera/tessera/interpreter/CollectionValue$Kind"))]
  resolved := Array.replicate 102 none
  statics := some 0 }

def pool7 : Array CpInfo := pool [(1, u "java/lang/Cloneable"), (0, .class_ 1), (0, u "java/lang/Object"), (0, .class_ 3)] 3

/-- java/lang/Cloneable -/
def k7 : Class := { plain "java/lang/Cloneable" (some 0) with
  accessFlags := 1537
  interfaces := #[]
  cf := some (fileOf pool7 2 #[] #[] 1537 4 #[] #[])
  fields := #[]
  methods := #[]
  instanceTypes := #[]
  staticTypes := #[]
  resolved := Array.replicate 8 none
  statics := none }

/-- the primitive byte -/
def k8 : Class := { plain "byte" none with kind := .primitive 'B', accessFlags := 0x411 }
/-- [B -/
def k9 : Class := { plain "[B" (some 0) with kind := .array 8 .byte, interfaces := #[7, 4], accessFlags := 1041 }

/-- the primitive int -/
def k10 : Class := { plain "int" none with kind := .primitive 'I', accessFlags := 0x411 }
/-- [I -/
def k11 : Class := { plain "[I" (some 0) with kind := .array 10 .int, interfaces := #[7, 4], accessFlags := 1041 }

def heap : Heap := #[{ cls := 6, slots := #[.ref 1, .ref 4, .ref 3, .ref 2, .null], vm := .statics 6 },
  { cls := 6, slots := #[.null, .int 0, .int 0, .null, .int 1, .int 0], vm := .none },
  { cls := 6, slots := #[.null, .int 0, .int 0, .null, .int 0, .int 0], vm := .none },
  { cls := 6, slots := #[.null, .int 0, .int 0, .null, .int 0, .int 1], vm := .none },
  { cls := 6, slots := #[.null, .int 0, .int 0, .null, .int 1, .int 1], vm := .none }]
def classes : Array Class := #[k0, k1, k2, k3, k4, k5, k6, k7, k8, k9, k10, k11]
def interned : List (Array UInt16 × Addr) := []
def slotsUsed : Nat := 29
def theMethod : MethodId := ⟨1, 1⟩
def args0 : Array Value := #[.int 5]
def aboutOver (below : List Frame) : State where
  vm := { classes := classes, interned := interned.toArray }
  heap := heap
  slotsUsed := slotsUsed
  threads := #[{ frames := .invoking theMethod args0 :: below }]
def below0 : List Frame := [.native { method := ⟨0, 0⟩, args := #[] }]
def about1 : State := aboutOver below0
def p0 : Program := .bare "" "" ""
def e0 : Env := launch0.env 0 0 0
theorem w_frames : about1.frames = Frame.invoking theMethod args0 :: below0 := rfl
set_option maxRecDepth 65536 in
theorem w_args : argsFit about1.vm theMethod args0 = true := by decide +kernel
set_option maxRecDepth 65536 in
theorem w_heap : heapFits about1 = true := by decide +kernel
set_option maxRecDepth 65536 in
theorem w_runnable : about1.curStatus? = some .runnable := by decide +kernel
set_option maxRecDepth 65536 in
theorem w_alone : about1.alone = true := by decide +kernel
set_option maxRecDepth 65536 in
theorem w_named : about1.methodNamed? x = some theMethod := by decide +kernel
set_option maxRecDepth 65536 in
theorem w_hears : about1.hears theMethod below0 = true := by decide +kernel
set_option maxRecDepth 65536 in
theorem w_ripe : about1.ripe theMethod args0 below0 = true := by decide +kernel
theorem w_running : about1.status = .running := rfl
set_option maxRecDepth 65536 in
theorem w_room : about1.hasRoom e0.platform room_1 = true :=
  launch0.hasRoom_least _ room_1 (by decide +kernel) (by decide +kernel) (by decide +kernel) (by decide +kernel) (by decide +kernel) (by decide +kernel)
theorem allAtoms_all (ts : List Jvm.Cond) (a : Array Jvm.Value) (st : Jvm.State) : (allAtoms ts).before a st = ts.all (fun c => c.before a st) := by
  induction ts with
  | nil => rfl
  | cons c t ih =>
    show (Jvm.Cond.and c (allAtoms t)).before a st = _
    rw [Jvm.Cond.before_and, ih, List.all_cons]
def words1 : List Jvm.Cond := Jvm.Cond.code x code maxLocals ret :: tables_1
/-- a 'code' word, met by the world's own term for the bytes: nothing is compared byte by byte -/
theorem code_word {y : MethodName} {bytes : ByteArray} {mx : Nat} {rt : Option FieldType} {a : Array Value} {s : State} {m : MethodId} {meth : Method} {c : Code} (h1 : s.methodNamed? y = some m) (h2 : s.vm.method? m = some meth) (h3 : meth.code = some c) (h4 : c.code = bytes)
    (h5 : (c.maxLocals == mx && c.exceptionTable.isEmpty && decide (c.maxStack ≤ mostOperands) && decide (meth.sig.returnType = rt) && !meth.locks && decide (parseMethodDescriptor y.desc = some meth.sig)) = true) : (Jvm.Cond.code y bytes mx rt).before a s = true := by
  simp only [Bool.and_eq_true, beq_iff_eq, Bool.not_eq_true', decide_eq_true_eq] at h5
  obtain ⟨⟨⟨⟨⟨g1, g2⟩, g3⟩, g4⟩, g5⟩, g6⟩ := h5
  simp [Cond.before, Cond.holds, Cond.value, h1, h2, h3, h4, g1, g2, g3, g4, g5, g6]
def isCode : Jvm.Cond → Bool
  | .code _ _ _ _ => true
  | _ => false
theorem all_split {L : List Jvm.Cond} {P : Jvm.Cond → Bool} (h1 : L.all (fun c => isCode c || P c) = true) (h2 : ∀ c ∈ L.filter isCode, P c = true) : L.all P = true := by
  refine List.all_eq_true.mpr fun c hc => ?_
  have h := List.all_eq_true.mp h1 c hc
  rcases Bool.eq_false_or_eq_true (isCode c) with hi | hi
  · exact h2 c (List.mem_filter.mpr ⟨hc, hi⟩)
  · simpa [hi] using h
set_option maxRecDepth 65536 in
theorem w_c0 : (Jvm.Cond.code x code maxLocals ret).before args0 about1 = true := code_word (m := ⟨1, 1⟩) (meth := k1m1) (c := k1c1) (by decide +kernel) rfl rfl rfl (by decide +kernel)
set_option maxRecDepth 65536 in
theorem w_c1 : (Jvm.Cond.code ({ cls := "com/example/tessera/tessera/interpreter/CollectionValue$Kind", name := "ordered", desc := "()Lcom/example/tessera/tessera/interpreter/CollectionValue$Kind;" } : Jvm.MethodName) prog_50_method_8_code (1 : Nat) (Option.some (Jvm.ClassFile.FieldType.object "com/example/tessera/tessera/interpreter/CollectionValue$Kind"))).before args0 about1 = true := code_word (m := ⟨6, 2⟩) (meth := k6m2) (c := k6c2) (by decide +kernel) rfl rfl rfl (by decide +kernel)
set_option maxRecDepth 65536 in
theorem w_c2 : (Jvm.Cond.code ({ cls := "com/example/tessera/tessera/interpreter/CollectionValue$Kind", name := "isOrdered", desc := "()Z" } : Jvm.MethodName) prog_50_method_5_code (1 : Nat) (Option.some Jvm.ClassFile.FieldType.boolean)).before args0 about1 = true := code_word (m := ⟨6, 0⟩) (meth := k6m0) (c := k6c0) (by decide +kernel) rfl rfl rfl (by decide +kernel)
set_option maxRecDepth 65536 in
theorem w_c3 : (Jvm.Cond.code ({ cls := "com/example/tessera/tessera/interpreter/CollectionValue$Kind", name := "isUnique", desc := "()Z" } : Jvm.MethodName) prog_50_method_6_code (1 : Nat) (Option.some Jvm.ClassFile.FieldType.boolean)).before args0 about1 = true := code_word (m := ⟨6, 1⟩) (meth := k6m1) (c := k6c1) (by decide +kernel) rfl rfl rfl (by decide +kernel)
def codes1 : List Jvm.Cond := [Jvm.Cond.code x code maxLocals ret, Jvm.Cond.code ({ cls := "com/example/tessera/tessera/interpreter/CollectionValue$Kind", name := "ordered", desc := "()Lcom/example/tessera/tessera/interpreter/CollectionValue$Kind;" } : Jvm.MethodName) prog_50_method_8_code (1 : Nat) (Option.some (Jvm.ClassFile.FieldType.object "com/example/tessera/tessera/interpreter/CollectionValue$Kind")), Jvm.Cond.code ({ cls := "com/example/tessera/tessera/interpreter/CollectionValue$Kind", name := "isOrdered", desc := "()Z" } : Jvm.MethodName) prog_50_method_5_code (1 : Nat) (Option.some Jvm.ClassFile.FieldType.boolean), Jvm.Cond.code ({ cls := "com/example/tessera/tessera/interpreter/CollectionValue$Kind", name := "isUnique", desc := "()Z" } : Jvm.MethodName) prog_50_method_6_code (1 : Nat) (Option.some Jvm.ClassFile.FieldType.boolean)]
set_option maxRecDepth 65536 in
theorem codes_eq : words1.filter isCode = codes1 := rfl
theorem w_codes : ∀ c ∈ words1.filter isCode, c.before args0 about1 = true := by
  rw [codes_eq]
  intro c hc
  simp only [codes1, List.mem_cons, List.not_mem_nil, or_false] at hc
  rcases hc with rfl | rfl | rfl | rfl
  · exact w_c0
  · exact w_c1
  · exact w_c2
  · exact w_c3
set_option maxRecDepth 65536 in
theorem w_t1 : (words1.take 24).all (fun c => isCode c || c.before args0 about1) = true := by decide +kernel
set_option maxRecDepth 65536 in
theorem w_t2 : (words1.drop 24).all (fun c => isCode c || c.before args0 about1) = true := by decide +kernel
theorem w_tables : (allAtoms (Jvm.Cond.code x code maxLocals ret :: tables_1)).before args0 about1 = true := by
  rw [allAtoms_all]
  show words1.all (fun c => c.before args0 about1) = true
  refine all_split ?_ w_codes
  rw [← List.take_append_drop 24 words1, List.all_append, w_t1, w_t2]
  rfl
set_option maxRecDepth 65536 in
theorem w_case : (Jvm.Cond.and given_1 narrow_1).before args0 about1 = true := by decide +kernel
theorem w_applies : (headSpec (Jvm.Cond.code x code maxLocals ret :: tables_1) room_1).applies x e0.platform about1 = true :=
  (Spec.applies_iff w_frames).mpr ⟨w_running, w_runnable, w_alone, w_named, w_hears, w_ripe, w_room, w_tables⟩
theorem atStart : AtStart classFile x code maxLocals ret World_1 tables_1 room_1 Calls_1 rest_1 Pre_1 launch0 p0 e0 about1 theMethod args0 below0 :=
  ⟨lists_1, trivial, launch0.admits_env _ _ _, launch0.least_env, fairChoices_fair.cas, fairChoices_fair.clock, w_frames, w_args, w_heap, w_applies, trivial, trivial, w_case⟩
end start1
theorem witness_1 : WitnessClaimed_1 := ⟨start1.p0, start1.e0, start1.about1, start1.theMethod, start1.args0, start1.below0, start1.atStart⟩
end Jvm.Pilot.@@N@@
