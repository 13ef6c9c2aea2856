import JvmDerived
import JvmDerived.Pilot.@@N@@Statement
import JvmDerived.Pilot.@@N@@Code
set_option linter.unusedVariables false
set_option linter.unusedSimpArgs false
@@BLOCK:TracedD.lean.txt@@
namespace Jvm.RoadKit
open Sem ClassFile Op Lib Jvm.Stand Jvm.Free Jvm.LawKit
section OwnFlow
variable {p : Program} {l : Launch} {e : Env} {R : Room} {s : State} {m : MethodId} {args : Array Value} {below : List Frame} {meth : Method} {c : Code} {T : State} {locs : List Loc} {cells slots : Nat} {P : State → Outcome → Prop} {Q : Option Value → Heap → List Loc → Prop} {C S : Nat}
/-- from t the run comes to an end at which P holds -/
def OGo (p : Program) (e : Env) (below : List Frame) (P : State → Outcome → Prop) (t : State) : Prop := ∃ s₂ o, Steps p.tables e below t s₂ ∧ s₂.status = .running ∧ Ended s₂ below o ∧ P s₂ o
/-- it returned; Q of the value, the heap and the places written; the frame -/
def OPost (s : State) (Q : Option Value → Heap → List Loc → Prop) (C S : Nat) (s₂ : State) (o : Outcome) : Prop := ∃ v L, o = .returned v ∧ Q v s₂.heap L ∧ FrameEnd s o s₂ L C S
theorem OGo.step {t t' : State} (h : ∀ u, Steps p.tables e below t' u → Steps p.tables e below t u) (g : OGo p e below P t') : OGo p e below P t := by
  obtain ⟨s2, o, h1, h2⟩ := g
  exact ⟨s2, o, h _ h1, h2⟩
theorem OGo.steps {t t' : State} (h : Steps p.tables e below t t') (g : OGo p e below P t') : OGo p e below P t := OGo.step (fun _ k => h.trans k) g
theorem OGo.retI (X : Stand p l e R s m args below meth c T locs cells slots) (hx : p.tables.exec = Jvm.exec) (hk : meth.locks = false) {pc : Nat} {Ls : Array Slot} {z : Int32} {rest : List Value} (hret : meth.sig.returnType = some .int) (hd : decode c.code pc = .ok (.ireturn, 1))
    (hc : cells ≤ C) (hs : slots ≤ S) (q : Q (some (.int z)) T.heap locs) : OGo p e below (OPost s Q C S) (T.setTop (mkF m pc Ls (.int z :: rest))) := by
  obtain ⟨fs, hr, hrun, hended, hW, hsame⟩ := X.leave (v := some (.int z)) (fun h => by rw [hret] at h; cases h) hk
  exact ⟨_, _, retOut X hx hret rfl (Or.inl ⟨rfl, Or.inl rfl, _, rfl⟩) hd hr, hrun, hended, _, _, rfl, q, ⟨_, rfl⟩, hW, hsame.mono hc hs⟩
theorem OGo.retN (X : Stand p l e R s m args below meth c T locs cells slots) (hx : p.tables.exec = Jvm.exec) (hk : meth.locks = false) {pc : Nat} {Ls : Array Slot} {z : Int32} {t : FieldType} {rest : List Value} (hret : meth.sig.returnType = some t) (ht : t = .boolean ∨ t = .byte ∨ t = .char ∨ t = .short) (hd : decode c.code pc = .ok (.ireturn, 1))
    (hc : cells ≤ C) (hs : slots ≤ S) (q : Q (some (.int (nar t z))) T.heap locs) : OGo p e below (OPost s Q C S) (T.setTop (mkF m pc Ls (.int z :: rest))) := by
  obtain ⟨fs, hr, hrun, hended, hW, hsame⟩ := X.leave (v := some (.int (nar t z))) (fun h => by rw [hret] at h; cases h) hk
  exact ⟨_, _, Jvm.RoadKit.retN X hx hret ht hd hr, hrun, hended, _, _, rfl, q, ⟨_, rfl⟩, hW, hsame.mono hc hs⟩
theorem OGo.retJ (X : Stand p l e R s m args below meth c T locs cells slots) (hx : p.tables.exec = Jvm.exec) (hk : meth.locks = false) {pc : Nat} {Ls : Array Slot} {z : Int64} {rest : List Value} (hret : meth.sig.returnType = some .long) (hd : decode c.code pc = .ok (.lreturn, 1))
    (hc : cells ≤ C) (hs : slots ≤ S) (q : Q (some (.long z)) T.heap locs) : OGo p e below (OPost s Q C S) (T.setTop (mkF m pc Ls (.long z :: rest))) := by
  obtain ⟨fs, hr, hrun, hended, hW, hsame⟩ := X.leave (v := some (.long z)) (fun h => by rw [hret] at h; cases h) hk
  exact ⟨_, _, retOut X hx hret rfl (Or.inr (Or.inl ⟨rfl, rfl, _, rfl⟩)) hd hr, hrun, hended, _, _, rfl, q, ⟨_, rfl⟩, hW, hsame.mono hc hs⟩
theorem OGo.retR (X : Stand p l e R s m args below meth c T locs cells slots) (hx : p.tables.exec = Jvm.exec) (hk : meth.locks = false) {pc : Nat} {Ls : Array Slot} {w : Value} {t : FieldType} {rest : List Value} (hret : meth.sig.returnType = some t) (ht : t.isReference = true) (hw : w.isRef = true) (hd : decode c.code pc = .ok (.areturn, 1))
    (hc : cells ≤ C) (hs : slots ≤ S) (q : Q (some w) T.heap locs) : OGo p e below (OPost s Q C S) (T.setTop (mkF m pc Ls (w :: rest))) := by
  obtain ⟨fs, hr, hrun, hended, hW, hsame⟩ := X.leave (v := some w) (fun h => by rw [hret] at h; cases h) hk
  have hn : narrow t w = w := by rcases ref_cases hw with rfl | ⟨a, rfl⟩ <;> cases t <;> first | rfl | (simp [FieldType.isReference] at ht)
  exact ⟨_, _, retOut X hx hret hn (Or.inr (Or.inr (Or.inr (Or.inr ⟨rfl, ht, hw⟩)))) hd hr, hrun, hended, _, _, rfl, q, ⟨_, rfl⟩, hW, hsame.mono hc hs⟩
theorem OGo.retV (X : Stand p l e R s m args below meth c T locs cells slots) (hx : p.tables.exec = Jvm.exec) (hk : meth.locks = false) {pc : Nat} {Ls : Array Slot} (hret : meth.sig.returnType = none) (hd : decode c.code pc = .ok (.return_, 1))
    (hc : cells ≤ C) (hs : slots ≤ S) (q : Q none T.heap locs) : OGo p e below (OPost s Q C S) (T.setTop (mkF m pc Ls [])) := by
  obtain ⟨fs, hr, hrun, hended, hW, hsame⟩ := X.leave (v := none) (fun _ => rfl) hk
  exact ⟨_, _, X.returnOut hx hret hd hr, hrun, hended, _, _, rfl, q, ⟨_, rfl⟩, hW, hsame.mono hc hs⟩
end OwnFlow
end Jvm.RoadKit
namespace Jvm.RoadKit
open Sem ClassFile Op Lib Jvm.Stand Jvm.Free Jvm.LawKit
section OwnWide
variable {p : Program} {l : Launch} {e : Env} {R : Room} {s : State} {m : MethodId} {args : Array Value} {below : List Frame} {meth : Method} {c : Code} {T : State} {locs : List Loc} {cells slots : Nat} {Q : Option Value → Heap → List Loc → Prop} {C S : Nat}
def OPostW (s : State) (Q : Option Value → Heap → List Loc → Prop) (C S : Nat) (s₂ : State) (o : Outcome) : Prop := ∃ v L, o = .returned v ∧ Q v s₂.heap L ∧ ReturnedEndW s o s₂ L C S
theorem OGo.retNW {vm1 : Vm} (X : Stand p l e R (s.setVm vm1) m args below meth c T locs cells slots) (hx : p.tables.exec = Jvm.exec) (hk : meth.locks = false) {n : Nat} (hS : s.Since vm1 n) (hn : n ≤ T.heap.size) {pc : Nat} {Ls : Array Slot} {z : Int32} {t : FieldType} {rest : List Value} (hret : meth.sig.returnType = some t) (ht : t = .boolean ∨ t = .byte ∨ t = .char ∨ t = .short) (hd : decode c.code pc = .ok (.ireturn, 1))
    (hc : cells ≤ C) (hs : slots ≤ S) (q : Q (some (.int (nar t z))) T.heap locs) : OGo p e below (OPostW s Q C S) (T.setTop (mkF m pc Ls (.int z :: rest))) := by
  obtain ⟨fs, hr, hrun, hended, hW⟩ := X.leaveW hS hn (v := some (.int (nar t z))) (fun h => by rw [hret] at h; cases h) hk
  exact ⟨_, _, Jvm.RoadKit.retN X hx hret ht hd hr, hrun, hended, _, _, rfl, q, hW.1, hW.2.1, hW.2.2.1, hW.2.2.2.mono hc hs⟩
end OwnWide
end Jvm.RoadKit
namespace Jvm.Pilot.@@N@@
open Jvm Jvm.ClassFile Sem Op Lib Jvm.Free Jvm.Stand Jvm.LawKit Jvm.RoadKit Bundle Jvm.Pilot.@@N@@.Jvm.D
theorem own_eqI {a b : Term} {args : Array Value} {first s : State} {o : Option Outcome} {idx : List Nat} {k : Int32} (h : (Cond.eq a b).value args first o s idx = some true) (hb : b.eval args first o idx s = some (.int k)) : a.eval args first o idx s = some (.int k) := by
  cases ha : a.eval args first o idx s with
  | none => simp [Cond.value, ha] at h
  | some y => cases y <;> simp [Cond.value, ha, hb] at h <;> rw [h]
theorem own_eqR {a b : Term} {args : Array Value} {first s : State} {o : Option Outcome} {idx : List Nat} {k : Addr} (h : (Cond.eq a b).value args first o s idx = some true) (hb : b.eval args first o idx s = some (.ref k)) : a.eval args first o idx s = some (.ref k) := by
  cases ha : a.eval args first o idx s with
  | none => simp [Cond.value, ha] at h
  | some y => cases y <;> simp [Cond.value, ha, hb] at h <;> rw [h]
def En (Z : State) (h : Heap) (nm : String) (cd : Int32) (a : Addr) : Prop := Sta Z h "com/example/coxswain/coxswain/api/ApiStatus" nm "Lcom/example/coxswain/coxswain/api/ApiStatus;" (.ref a) ∧ Exa Z h a "com/example/coxswain/coxswain/api/ApiStatus" ∧ Fld Z h a "com/example/coxswain/coxswain/api/ApiStatus" "code" "I" (.int cd)
def cof (i : Int32) : Int32 := (if i = (0 : Int32) then (200 : Int32) else (if i = (1 : Int32) then (400 : Int32) else (if i = (2 : Int32) then (401 : Int32) else (if i = (3 : Int32) then (403 : Int32) else (if i = (4 : Int32) then (404 : Int32) else (if i = (5 : Int32) then (405 : Int32) else (if i = (6 : Int32) then (409 : Int32) else (if i = (7 : Int32) then (413 : Int32) else (if i = (8 : Int32) then (421 : Int32) else (if i = (9 : Int32) then (500 : Int32) else (503 : Int32)))))))))))
theorem own_nb (P : Prop) [Decidable P] : nar .boolean (if P then (1 : Int32) else (0 : Int32)) = (if P then (1 : Int32) else (0 : Int32)) := by split <;> rfl
theorem own_str_in : ∀ w ∈ Bundle.stringAtoms, w ∈ tables_1 := by decide +kernel
theorem own_exc_in : ∀ w ∈ (Jvm.Free.Exc.excAtoms "com/example/coxswain/coxswain/api/ControllerException").eraseIdx 18, w ∈ tables_1 := by decide +kernel
theorem own_exc_ok : ((Jvm.Free.Exc.excAtoms "com/example/coxswain/coxswain/api/ControllerException").eraseIdx 18).all xOk = true := by decide +kernel
/-- the words of a Throwable, without that of Throwable's own layout at suppressedExceptions (the sheet has it of the program's class alone) -/
def own_W (args : Array Value) (s : State) : Prop := ∀ w ∈ (Jvm.Free.Exc.excAtoms "com/example/coxswain/coxswain/api/ControllerException").eraseIdx 18, w.holds args s none s [] = true
theorem own_W_at {Z s : State} {a0 args : Array Value} (hw : ∀ d ∈ tables_1, d.before a0 Z = true) (hT : ThS Z s.heap) (hZ : Z.Warmed39 s.vm) : own_W args s := fun w h => mvX hT hZ (List.all_eq_true.mp own_exc_ok w h) (hw w (own_exc_in w h))
theorem own_sigF {g : MethodDescriptor} (h : parseMethodDescriptor "()Ljava/lang/Throwable;" = some g) : g.parameters = [] := by
  rw [show parseMethodDescriptor "()Ljava/lang/Throwable;" = some ⟨[], some (.object "java/lang/Throwable")⟩ from by decide +kernel] at h
  rw [← Option.some.inj h]
theorem own_sigN {g : MethodDescriptor} (h : parseMethodDescriptor "(I)Ljava/lang/Throwable;" = some g) : g.parameters = [.int] := by
  rw [show parseMethodDescriptor "(I)Ljava/lang/Throwable;" = some ⟨[.int], some (.object "java/lang/Throwable")⟩ from by decide +kernel] at h
  rw [← Option.some.inj h]
theorem own_sigO {g : MethodDescriptor} (h : parseMethodDescriptor "()V" = some g) : g.parameters.length = 0 := by
  rw [show parseMethodDescriptor "()V" = some ⟨[], none⟩ from by decide +kernel] at h
  rw [← Option.some.inj h]; rfl
theorem own_slot {s : State} {C n d : String} {c i : Nat} {k : Class} {f : Field} (h : s.fieldFound? C n d = some (c, k, i, f)) : Jvm.RoadKit.slotOf s C n d = f.slot := by simp [Jvm.RoadKit.slotOf, h]
set_option maxRecDepth 65536 in
set_option maxHeartbeats 4000000 in
theorem own_thr {args : Array Value} {s : State} {pl : Platform} (p1 : pl.frameOwnsMonitors = true) (p2 : pl.finalization = false) (p3 : pl.magicAccessors = ({} : Platform).magicAccessors) (A : own_W args s) :
    ∃ T : ThrowableC, T.Links pl s ∧ s.vm.findClass tN = some T.cT ∧ s.methodNamed? tFill = some T.fill ∧ s.methodNamed? tFill0 = some T.fill0 ∧ s.fieldFound? tN "stackTrace" steD = some (T.cT, T.kT, T.i17, T.fStack) ∧
      s.fieldFound? tN "UNASSIGNED_STACK" steD = some (T.cT, T.kT, T.i13, T.fUnassigned) ∧ T.fStack.type = .array (.object "java/lang/StackTraceElement") := by
  -- the class, by its native method
  obtain ⟨⟨ct, jN⟩, mN, nN, qN, natN, codN, lokN, sigN⟩ := Cond.native_spec (x := tFill0) (A _ (List.mem_of_getElem? (i := 5) rfl))
  have fc : s.vm.findClass tN = some ct := findClass_of_methodNamed nN
  obtain ⟨kt, kc, kn⟩ := Vm.findClass_spec fc
  obtain ⟨-, kt', -, -, kc', -, -, ord, -, ni⟩ := Cond.superclass_spec fc (A _ (List.mem_of_getElem? (i := 1) rfl))
  cases Option.some.inj (kc.symm.trans kc')
  -- its methods
  obtain ⟨jN', mN', nN', qN', atN, stN, abN, nmN, dsN⟩ := Cond.ownMethod (x := tFill0) fc kc (A _ (List.mem_of_getElem? (i := 4) rfl))
  cases Option.some.inj (nN.symm.trans nN')
  cases Option.some.inj (qN.symm.trans qN')
  obtain ⟨jF, mF, nF, qF, atF, stF, abF, -, -⟩ := Cond.ownMethod (x := tFill) fc kc (A _ (List.mem_of_getElem? (i := 2) rfl))
  obtain ⟨mF', cF, qF', codF, bytF, maxF, retF, lokF, -, sigF⟩ := Cond.codeSync_spec nF (A _ (List.mem_of_getElem? (i := 3) rfl))
  cases Option.some.inj (qF.symm.trans qF')
  obtain ⟨jO, mO, nO, qO, stO, abO⟩ := Cond.instanceMethod_spec (A (.instanceMethod oInit) (List.mem_of_getElem? (i := 8) rfl))
  obtain ⟨mO', cO, qO', codO, bytO, -, -, lokO, -, sigO⟩ := Cond.code_spec nO (A _ (List.mem_of_getElem? (i := 9) rfl))
  cases Option.some.inj (qO.symm.trans qO')
  obtain ⟨kO, kcO, knO⟩ := Vm.findClass_spec (findClass_of_methodNamed nO)
  obtain ⟨nmO, dsO⟩ := name_of_methodNamed nO qO
  -- the three calls
  obtain ⟨u1, v1, cf, l1, r1, file, o1⟩ := Cond.linkedMethod fc kc nO (A (.methodLink tN 1 oInit) (List.mem_of_getElem? (i := 10) rfl)) pl p3
  obtain ⟨u2, v2, cf2, l2, r2, file2, o2⟩ := Cond.linkedMethod fc kc nF (A (.methodLink tN 27 tFill) (List.mem_of_getElem? (i := 11) rfl)) pl p3
  cases Option.some.inj (file.symm.trans file2)
  obtain ⟨u3, v3, cf3, l3, r3, file3, o3⟩ := Cond.linkedMethod fc kc nN (A (.methodLink tN 202 tFill0) (List.mem_of_getElem? (i := 12) rfl)) pl p3
  cases Option.some.inj (file.symm.trans file3)
  -- the fields; suppressedExceptions by the word of the program's own class
  obtain ⟨a1, b1, f1, y1, z1, t1, s1, w1, -, -, -⟩ := Cond.ownField (t := .object tN) fc kc (by decide +kernel) (A (.fieldLink tN 7 tN "cause" "Ljava/lang/Throwable;") (List.mem_of_getElem? (i := 13) rfl)) (A (.lays tN tN "cause" "Ljava/lang/Throwable;") (List.mem_of_getElem? (i := 14) rfl)) pl p3
  obtain ⟨a2, b2, f2, y2, z2, t2, s2, w2, -, ty2, ff2⟩ := Cond.ownField (t := .array (.object "java/lang/StackTraceElement")) fc kc (by decide +kernel) (A (.fieldLink tN 17 tN "stackTrace" steD) (List.mem_of_getElem? (i := 15) rfl)) (A (.lays tN tN "stackTrace" steD) (List.mem_of_getElem? (i := 16) rfl)) pl p3
  obtain ⟨a3, b3, f3, y3, z3, t3, s3, w3, -, -, ff3⟩ := Cond.ownField (t := .object "java/util/List") fc kc (by decide +kernel) (A (.fieldLink tN 24 tN "suppressedExceptions" listD) (List.mem_of_getElem? (i := 17) rfl)) (A (.lays "com/example/coxswain/coxswain/api/ControllerException" tN "suppressedExceptions" listD) (List.mem_of_getElem? (i := 28) rfl)) pl p3
  obtain ⟨a4, b4, f4, aS, -, y4, z4, t4, s4, -, -, sta, -, -, -, -, ff4⟩ := Cond.ownStatic (t := .array (.object "java/lang/StackTraceElement")) fc kc (by decide +kernel) (A (.fieldLink tN 13 tN "UNASSIGNED_STACK" steD) (List.mem_of_getElem? (i := 18) rfl)) (A (.laysStatic tN "UNASSIGNED_STACK" steD) (List.mem_of_getElem? (i := 19) rfl)) pl p3
  obtain ⟨a5, b5, f5, -, -, y5, z5, t5, s5, -⟩ := Cond.ownStatic (t := .object "java/util/List") fc kc (by decide +kernel) (A (.fieldLink tN 20 tN "SUPPRESSED_SENTINEL" listD) (List.mem_of_getElem? (i := 20) rfl)) (A (.laysStatic tN "SUPPRESSED_SENTINEL" listD) (List.mem_of_getElem? (i := 21) rfl)) pl p3
  obtain ⟨-, -, -, -, -, f6, -, -, -, s6, w6, -⟩ := Cond.lays_spec (A (.lays tN tN "detailMessage" "Ljava/lang/String;") (List.mem_of_getElem? (i := 22) rfl))
  have apart : f2.slot ≠ f3.slot := by
    have q := slot_ne (Z := s) (a0 := args) (C := "com/example/coxswain/coxswain/api/ControllerException") (Or.inl (A (.lays "com/example/coxswain/coxswain/api/ControllerException" tN "stackTrace" steD) (List.mem_of_getElem? (i := 27) rfl))) (Or.inl (A (.lays "com/example/coxswain/coxswain/api/ControllerException" tN "suppressedExceptions" listD) (List.mem_of_getElem? (i := 28) rfl))) (by decide) (t := .array (.object "java/lang/StackTraceElement")) (t' := .object "java/util/List") (by decide) (by decide)
    rwa [own_slot ff2, own_slot ff3] at q
  exact ⟨{ cT := ct, kT := kt, cO := ct, aS := aS, fillIdx := jF, fill0Idx := jN, initSIdx := jF, obj := jO, kObj := kO, methFill := mF, methFill0 := mN, methInitS := mF, methObj := mO, codeFill := cF, codeInitS := cF, codeObj := cO, fBack := f1, fDepth := f1, fStack := f2, fCause := f1, fSupp := f3, fMsg := f6, fUnassigned := f4, fSentinel := f5, cfT := cf, ci1 := u1, n1 := v1, ci27 := u2, n27 := v2, ci202 := u3, n202 := v3, ci7 := a1, i7 := b1, ci13 := a4, i13 := b4, ci17 := a2, i17 := b2, ci20 := a5, i20 := b5, ci24 := a3, i24 := b3 },
    ⟨p1, p2, kc, kn, Vm.findClass_boot fc kc, ni, Cond.initialized_spec fc kc (A _ (List.mem_of_getElem? (i := 0) rfl)), sta, atF, codF, bytF, maxF, lokF, stF, abF, retF, own_sigF sigF, atN, nmN, dsN, own_sigN sigN, stN, natN, codN, lokN, abN, s2, w2, s4, kcO, knO, qO, nmO, stO, abO, by rw [dsO]; exact lookupSpecial_of_named nO qO stO, own_sigO sigO, codO, bytO, lokO,
      s1, w1, s5, s3, w3, s6, w6, apart, file, l1, r1, o1, l2, r2, o2, l3, r3, o3, y1, z1, t1, y4, z4, t4, y2, z2, t2, y5, z5, t5, y3, z3, t3⟩, fc, nF, nN, ff2, ff4, ty2⟩
theorem own_sta {Z : State} {a0 : Array Value} {h : Heap} {F D : String} (wi : (Cond.initialized tN).before a0 Z = true) (wl : (Cond.laysStatic tN F D).before a0 Z = true) (wr : (Cond.isRef (.static tN F D)).before a0 Z = true) (T : ThS Z h) : ∃ u : RefV, Sta Z h tN F D u.v := by
  obtain ⟨cl, k, i, f, a, cell, hc, hf, hst, ha, hcell, hs, -⟩ := Cond.laysStatic_spec wl
  have hk := State.fieldFound?_class hf
  obtain ⟨u, hu⟩ := Cond.staticRefV hf hst ha hcell hs wr
  exact ⟨u, cl, i, k, f, a, cell, hf, hst, Cond.initialized_spec hc hk wi, ha, T _ _ _ _ hc hk ha hcell hs, hs, hu⟩
set_option maxRecDepth 65536 in
set_option maxHeartbeats 8000000 in
/-- the call of fillInStackTrace() in Throwable's constructor, over own_thr -/
theorem own_fill {p : Program} {l : Launch} {e : Env} {R : Room} {s : State} {m : MethodId} {args : Array Value} {below : List Frame} {meth : Method} {c : Code} {T : State} {locs : List Loc} {cells slots : Nat} {Z : State} {a0 : Array Value} {h : Heap}
    (X : Stand p l e R s m args below meth c T locs cells slots) (hx : p.tables.exec = Jvm.exec) (hl : l.stackTraces = true) (hZ : Z.Warmed39 s.vm) (hw : ∀ d ∈ tables_1, d.before a0 Z = true) (hown : s.vm.findClass tN = some m.cls) (hT0 : ThS Z s.heap) (hTK : s.vm.MethodsKnown) (hBelow : s.vm.FramesKnown below) (eT : T.heap = h) {a : Addr} {k8 : Nat} (wi : (Cond.instantiable "com/example/coxswain/coxswain/api/ControllerException" k8).before a0 Z = true)
    (E : Exa Z h a "com/example/coxswain/coxswain/api/ControllerException") (N : Unt h a) {u0 : RefV} (FS : Fld Z h a tN "stackTrace" steD u0.v) (FB : Fld Z h a tN "backtrace" Jvm.Free.Exc.obD .null) (SU : Sta Z h tN "UNASSIGNED_STACK" steD u0.v)
    {g : JFrame} (hg : g.method = m) (hsize : g.locals.size = c.maxLocals) (hs : g.stack = [.ref a]) (hd : decode c.code g.pc = .ok (.invokevirtual 27, 3)) (hf : 2 < R.frames) (hlo : 2 * g.monitorRoom + 42 ≤ R.locals) (hc : cells + 1 ≤ R.cells) (hsl : slots + 2752 ≤ R.slots) :
    ∃ (T' : State) (L : List Loc), Stand p l e R s m args below meth c T' (locs ++ L) (cells + 1) (slots + 2752) ∧ (∀ x ∈ L, ∃ nd ∈ Jvm.Free.Exc.sixNames, x = ⟨a, Jvm.RoadKit.slotOf Z tN nd.1 nd.2⟩) ∧ Exa Z T'.heap a "com/example/coxswain/coxswain/api/ControllerException" ∧ (∃ C : Cell, T'.heap[a]? = some C ∧ C.vm ≠ .unknown) ∧
      Steps p.tables e below (T.setTop g) (T'.setTop { g with pc := g.pc + 3, stack := [.ref a] }) := by
  have A : own_W args s := own_W_at hw hT0 hZ
  have htr : e.platform.stackTraces = true := by rw [X.admits.platform]; exact hl
  have hpl : e.platform.magicAccessors = ({} : Platform).magicAccessors := by rw [X.admits.platform]
  obtain ⟨Th, Lk, hfc, nF, nN, ffS, ffU, tyS⟩ := own_thr (pl := e.platform) (by rw [X.admits.platform]) (by rw [X.admits.platform]) hpl A
  obtain ⟨cell, hcell, hvm, hmon⟩ := N
  obtain ⟨cell2, kX, e1, e2, e3, e4, e5⟩ := E
  cases hcell.symm.trans e1
  obtain ⟨cI, kI, i1, i2, i3, -⟩ := Cond.instantiable_spec wi
  cases e2.symm.trans i1
  cases e3.symm.trans i2
  have hfound : s.vm.findClass "com/example/coxswain/coxswain/api/ControllerException" = some cell.cls := by rw [hZ.alike.findClass]; exact e2
  obtain ⟨k', hk', hek⟩ := hZ.alike.2.2 _ _ e3
  have hord : k'.kind = .ordinary := by rw [hek]; exact i3
  have hsz : cell.slots.size = k'.instanceTypes.size := by rw [hek]; exact e5 i3
  -- the field stackTrace, the static UNASSIGNED_STACK, as the table of s has them
  obtain ⟨cS, cf, kf, iS, fS, b1, b2, -, -, -, -, b7⟩ := FS
  cases hcell.symm.trans b1
  obtain ⟨k4, q4, -⟩ := State.fieldFound?_setVm (s := Z) hZ.alike b2
  cases (show s.fieldFound? tN "stackTrace" steD = _ from q4).symm.trans ffS
  obtain ⟨cfU, iU, kU, fU, st, cellS, g1, g2, g3, g4, g5, g6, g7⟩ := SU
  obtain ⟨k5, q5, hek5⟩ := State.fieldFound?_setVm (s := Z) hZ.alike g1
  cases (show s.fieldFound? tN "UNASSIGNED_STACK" steD = _ from q5).symm.trans ffU
  have hst : st = Th.aS := Option.some.inj ((show Th.kT.statics = some st by rw [hek5]; exact g4).symm.trans Lk.statics)
  subst hst
  have hneS : Th.aS ≠ a := fun z => by
    rw [z] at g5
    cases hcell.symm.trans g5
    rw [hvm] at g6; cases g6
  have hsel0 : selectMethod e.platform s.vm cell.cls Th.fill0 = .method Th.fill0 := by
    obtain ⟨c2, r2, m2, x1, x2, x3, x4, -⟩ := Cond.selects_spec (A (.selects "com/example/coxswain/coxswain/api/ControllerException" tFill0 tFill0) (List.mem_of_getElem? (i := 24) rfl))
    cases x1.symm.trans hfound
    cases x2.symm.trans (State.methodFound?_of_named nN (by decide))
    cases x3.symm.trans nN
    rw [Launch.admits_selectMethod X.admits]; exact x4
  -- backtrace and depth
  obtain ⟨ci, ib, fB, y1, z1, t1, s1, -, nB, tyB, ffB⟩ := Cond.ownField (t := .object "java/lang/Object") hfc Lk.cls (by decide +kernel) (A (.fieldLink tN 198 tN "backtrace" "Ljava/lang/Object;") (List.mem_of_getElem? (i := 30) rfl)) (A (.lays tN tN "backtrace" "Ljava/lang/Object;") (List.mem_of_getElem? (i := 31) rfl)) e.platform hpl
  obtain ⟨cB, cfB, kfB, iB, fB2, v1, v2, -, -, -, -, v7⟩ := FB
  cases hcell.symm.trans v1
  obtain ⟨k6, q6, -⟩ := State.fieldFound?_setVm (s := Z) hZ.alike v2
  cases (show s.fieldFound? tN "backtrace" "Ljava/lang/Object;" = _ from q6).symm.trans ffB
  obtain ⟨-, -, cD, kD, iD, fD, -, -, ffD, stD, -⟩ := Cond.lays_spec (A (.lays "com/example/coxswain/coxswain/api/ControllerException" tN "depth" "I") (List.mem_of_getElem? (i := 36) rfl))
  cases (Cond.lays_declared (A (.lays "com/example/coxswain/coxswain/api/ControllerException" tN "depth" "I") (List.mem_of_getElem? (i := 36) rfl)) ffD).symm.trans hfc
  obtain ⟨hkD, atD⟩ := State.fieldFound?_spec ffD
  cases hkD.symm.trans Lk.cls
  obtain ⟨nD, tyD⟩ := State.fieldFound?_type ffD (t := .int) (by decide +kernel)
  have hfb := Cond.soleField_find hfc Lk.cls (A (.soleField tN "backtrace") (List.mem_of_getElem? (i := 34) rfl)) t1 nB s1
  have hfd := Cond.soleField_find hfc Lk.cls (A (.soleField tN "depth") (List.mem_of_getElem? (i := 35) rfl)) atD nD stD
  obtain ⟨comp, cO, kO, -, -, hkO, hkindO, hO⟩ := Cond.arrayOver_spec (A (.arrayOver (.object "java/lang/Object")) (List.mem_of_getElem? (i := 33) rfl))
  have tk : ∀ {f : Field} {v : Value}, k'.instanceTypes[f.slot]? = some f.type → fits f.type v = true → Jvm.Takes s cell f v := fun h1 h2 => by
    obtain ⟨x1, x2⟩ := Takes.of_laid hk' hord h1 h2
    exact ⟨by rw [hsz]; simpa using x1, by rw [hvm]; exact x2⟩
  have hSE : (Cond.selects "com/example/coxswain/coxswain/api/ControllerException" tFill tFill).before args s = true := A _ (List.mem_of_getElem? (i := 25) rfl)
  obtain ⟨v6, vm6, ⟨T6, L6, c6, n6⟩, -, X6, ⟨hv6, C6, n, hn, hD6, r1, r2, r3, -, hL6, hc6, hn6⟩, come⟩ := X.virtualBack hx (own := tN) (C := "com/example/coxswain/coxswain/api/ControllerException") (index := 27) (y := tFill) (z := tFill) hown (A (.methodLink tN 27 tFill) (List.mem_of_getElem? (i := 11) rfl)) (A (.declares tFill) (List.mem_of_getElem? (i := 23) rfl)) (notFace_of_selects hSE) hSE (A (.instanceMethod tFill) (List.mem_of_getElem? (i := 2) rfl)) (by decide)
    (Jvm.Free.Exc.fillPaysAny (l := l) (W := 2 * g.monitorRoom) hx htr Th Lk nF (u0 := u0) (self := a) (cell := cell) (cellS := cellS) (fun _ => by rw [hvm]; simp) (by rw [hvm]; simp) (by rw [hmon]) (by rw [hmon]) b7 hsel0 hneS (fun z => by rw [z] at g6; cases g6) g7 (tk (Cond.laysAt hfound hk' ffS (A (.lays "com/example/coxswain/coxswain/api/ControllerException" tN "stackTrace" steD) (List.mem_of_getElem? (i := 27) rfl))).1 (by rw [tyS]; exact fits_refV_array _ u0))
      ⟨{ ci198 := ci, i198 := ib, fBack := fB }, ⟨y1, z1, t1, s1⟩, v7⟩ hTK hBelow hfc hO hkO hkindO hfb hfd
      (fun x => tk (Cond.laysAt hfound hk' ffB (A (.lays "com/example/coxswain/coxswain/api/ControllerException" tN "backtrace" "Ljava/lang/Object;") (List.mem_of_getElem? (i := 32) rfl))).1 (by rw [tyB]; rfl)) (fun x => tk (Cond.laysAt hfound hk' ffD (A (.lays "com/example/coxswain/coxswain/api/ControllerException" tN "depth" "I") (List.mem_of_getElem? (i := 36) rfl))).1 (by rw [tyD]; rfl)) hf hlo)
    (b := a) (cB := cell.cls) hfound ⟨cell, by rw [eT]; exact hcell, rfl, by rw [hvm]; rfl⟩ (g := g) hg hsize (Steps.refl _) (argsL := []) (rest := [])
    (fun sig q => by rw [own_sigF q]; rfl) hs (by simp) hd
    (fun vmx hWx => ⟨rfl, hc, hsl, by show T.heap[a]? = _; rw [eT]; exact hcell, by show T.heap[Th.aS]? = _; rw [eT]; exact g5⟩)
  dsimp only [Pt.U, Pt.locs, Pt.cells, Pt.slots] at X6 hD6 hL6 hc6 hn6 come
  subst hv6 hL6 hc6 hn6
  obtain ⟨_, _, _, ffDZ⟩ := Jvm.Free.BdW.found_ride (U := s) (U' := Z) hZ.alike.symm ⟨_, _, _, ffD⟩
  refine ⟨T6, _, X6.more (Nat.le_refl _) (Nat.add_le_add_left hn _), fun x hm => ?_, ⟨C6, kX, hD6, by rw [r1]; exact e2, by rw [r1]; exact e3, by rw [r2, hvm]; rfl, fun z => by rw [r3]; exact e5 z⟩, ⟨C6, hD6, by rw [r2, hvm]; simp⟩, come⟩
  simp only [List.mem_cons, List.not_mem_nil, or_false] at hm
  rcases hm with rfl | rfl | rfl
  · exact ⟨("backtrace", Jvm.Free.Exc.obD), by simp [Jvm.Free.Exc.sixNames], by rw [own_slot v2]⟩
  · exact ⟨("depth", "I"), by simp [Jvm.Free.Exc.sixNames], by rw [own_slot ffDZ]⟩
  · exact ⟨("stackTrace", steD), by simp [Jvm.Free.Exc.sixNames], by rw [own_slot b2]⟩
theorem own_lays_in : ∀ nd ∈ Jvm.Free.Exc.sixNames, Cond.lays "com/example/coxswain/coxswain/api/ControllerException" tN nd.1 nd.2 ∈ tables_1 := by decide +kernel
theorem own_ty6 : ∀ nd ∈ Jvm.Free.Exc.sixNames, (parseFieldDescriptor nd.2).isSome = true := by decide +kernel
theorem own_six_ne {Z : State} {a0 : Array Value} {O n d : String} {ty : FieldType} (hw : ∀ w ∈ tables_1, w.before a0 Z = true) (Lf : Laid Z a0 "com/example/coxswain/coxswain/api/ControllerException" O n d) (ht : parseFieldDescriptor d = some ty) (hn : ∀ nd ∈ Jvm.Free.Exc.sixNames, nd.1 ≠ n) : ∀ nd ∈ Jvm.Free.Exc.sixNames, Jvm.RoadKit.slotOf Z tN nd.1 nd.2 ≠ Jvm.RoadKit.slotOf Z O n d := fun nd hm => by
  obtain ⟨t, q⟩ := Option.isSome_iff_exists.mp (own_ty6 nd hm)
  exact slot_ne (Or.inl (hw _ (own_lays_in nd hm))) Lf (hn nd hm) q ht
def Sx (Z : State) (a : Addr) (L : List Loc) : Prop := ∀ x ∈ L, ∃ nd ∈ Jvm.Free.Exc.sixNames, x = ⟨a, Jvm.RoadKit.slotOf Z tN nd.1 nd.2⟩
/-- what the places written say of the heap: only Throwable's six places of a differ -/
theorem own_kp {p : Program} {l : Launch} {e : Env} {R : Room} {s : State} {m : MethodId} {args : Array Value} {below : List Frame} {meth : Method} {c : Code} {T : State} {locs : List Loc} {cells slots : Nat} {Z : State} {a0 : Array Value} {h : Heap} {a : Addr}
    (X : Stand p l e R s m args below meth c T locs cells slots) (hZ : Z.Warmed39 s.vm) (hw : ∀ w ∈ tables_1, w.before a0 Z = true) (hs : s.heap = h) (hL : Sx Z a locs) : Kp Z h T.heap a := by
  refine kp_of (L := locs) hZ hs (fun x hx => ?_) fun y cy hy => X.same.2.2.2.2.2 y cy hy
  obtain ⟨nd, hm, rfl⟩ := hL x hx
  obtain ⟨-, -, cf, k, i, f, -, -, hf, -⟩ := Laid.spec (Or.inl (hw _ (own_lays_in nd hm)) : Laid Z a0 "com/example/coxswain/coxswain/api/ControllerException" tN nd.1 nd.2)
  exact ⟨nd, f, hm, Jvm.Free.BdW.found_ride (U := Z) (U' := s) hZ.alike ⟨_, _, _, hf⟩, by rw [own_slot hf]⟩
theorem Sx.nil {Z : State} {a : Addr} : Sx Z a [] := fun x h => absurd h List.not_mem_nil
theorem Sx.app {Z : State} {a : Addr} {L L' : List Loc} (h : Sx Z a L) (h' : Sx Z a L') : Sx Z a (L ++ L') := fun x hx => (List.mem_append.mp hx).elim (h x) (h' x)
theorem Sx.snoc {Z : State} {a : Addr} {L : List Loc} (h : Sx Z a L) (nd : String × String) (hm : nd ∈ Jvm.Free.Exc.sixNames) : Sx Z a (L ++ [⟨a, Jvm.RoadKit.slotOf Z tN nd.1 nd.2⟩]) := h.app fun x hx => ⟨nd, hm, List.mem_singleton.mp hx⟩
theorem d1_0 : decode method_3_code 0 = .ok (.iload_n 0, 1) := by decide +kernel
theorem d1_1 : decode method_3_code 1 = .ok (.ifCond .ne 7, 3) := by decide +kernel
theorem d1_4 : decode method_3_code 4 = .ok (.sipush 200, 3) := by decide +kernel
theorem d1_7 : decode method_3_code 7 = .ok (.ireturn, 1) := by decide +kernel
theorem d1_8 : decode method_3_code 8 = .ok (.iload_n 0, 1) := by decide +kernel
theorem d1_9 : decode method_3_code 9 = .ok (.iconst 1, 1) := by decide +kernel
theorem d1_10 : decode method_3_code 10 = .ok (.if_icmp .ne 7, 3) := by decide +kernel
theorem d1_13 : decode method_3_code 13 = .ok (.sipush 400, 3) := by decide +kernel
theorem d1_16 : decode method_3_code 16 = .ok (.ireturn, 1) := by decide +kernel
theorem d1_17 : decode method_3_code 17 = .ok (.iload_n 0, 1) := by decide +kernel
theorem d1_18 : decode method_3_code 18 = .ok (.iconst 2, 1) := by decide +kernel
theorem d1_19 : decode method_3_code 19 = .ok (.if_icmp .ne 7, 3) := by decide +kernel
theorem d1_22 : decode method_3_code 22 = .ok (.sipush 401, 3) := by decide +kernel
theorem d1_25 : decode method_3_code 25 = .ok (.ireturn, 1) := by decide +kernel
theorem d1_26 : decode method_3_code 26 = .ok (.iload_n 0, 1) := by decide +kernel
theorem d1_27 : decode method_3_code 27 = .ok (.iconst 3, 1) := by decide +kernel
theorem d1_28 : decode method_3_code 28 = .ok (.if_icmp .ne 7, 3) := by decide +kernel
theorem d1_31 : decode method_3_code 31 = .ok (.sipush 403, 3) := by decide +kernel
theorem d1_34 : decode method_3_code 34 = .ok (.ireturn, 1) := by decide +kernel
theorem d1_35 : decode method_3_code 35 = .ok (.iload_n 0, 1) := by decide +kernel
theorem d1_36 : decode method_3_code 36 = .ok (.iconst 4, 1) := by decide +kernel
theorem d1_37 : decode method_3_code 37 = .ok (.if_icmp .ne 7, 3) := by decide +kernel
theorem d1_40 : decode method_3_code 40 = .ok (.sipush 404, 3) := by decide +kernel
theorem d1_43 : decode method_3_code 43 = .ok (.ireturn, 1) := by decide +kernel
theorem d1_44 : decode method_3_code 44 = .ok (.iload_n 0, 1) := by decide +kernel
theorem d1_45 : decode method_3_code 45 = .ok (.iconst 5, 1) := by decide +kernel
theorem d1_46 : decode method_3_code 46 = .ok (.if_icmp .ne 7, 3) := by decide +kernel
theorem d1_49 : decode method_3_code 49 = .ok (.sipush 405, 3) := by decide +kernel
theorem d1_52 : decode method_3_code 52 = .ok (.ireturn, 1) := by decide +kernel
theorem d1_53 : decode method_3_code 53 = .ok (.iload_n 0, 1) := by decide +kernel
theorem d1_54 : decode method_3_code 54 = .ok (.bipush 6, 2) := by decide +kernel
theorem d1_56 : decode method_3_code 56 = .ok (.if_icmp .ne 7, 3) := by decide +kernel
theorem d1_59 : decode method_3_code 59 = .ok (.sipush 409, 3) := by decide +kernel
theorem d1_62 : decode method_3_code 62 = .ok (.ireturn, 1) := by decide +kernel
theorem d1_63 : decode method_3_code 63 = .ok (.iload_n 0, 1) := by decide +kernel
theorem d1_64 : decode method_3_code 64 = .ok (.bipush 7, 2) := by decide +kernel
theorem d1_66 : decode method_3_code 66 = .ok (.if_icmp .ne 7, 3) := by decide +kernel
theorem d1_69 : decode method_3_code 69 = .ok (.sipush 413, 3) := by decide +kernel
theorem d1_72 : decode method_3_code 72 = .ok (.ireturn, 1) := by decide +kernel
theorem d1_73 : decode method_3_code 73 = .ok (.iload_n 0, 1) := by decide +kernel
theorem d1_74 : decode method_3_code 74 = .ok (.bipush 8, 2) := by decide +kernel
theorem d1_76 : decode method_3_code 76 = .ok (.if_icmp .ne 7, 3) := by decide +kernel
theorem d1_79 : decode method_3_code 79 = .ok (.sipush 421, 3) := by decide +kernel
theorem d1_82 : decode method_3_code 82 = .ok (.ireturn, 1) := by decide +kernel
theorem d1_83 : decode method_3_code 83 = .ok (.iload_n 0, 1) := by decide +kernel
theorem d1_84 : decode method_3_code 84 = .ok (.bipush 9, 2) := by decide +kernel
theorem d1_86 : decode method_3_code 86 = .ok (.if_icmp .ne 7, 3) := by decide +kernel
theorem d1_89 : decode method_3_code 89 = .ok (.sipush 500, 3) := by decide +kernel
theorem d1_92 : decode method_3_code 92 = .ok (.ireturn, 1) := by decide +kernel
theorem d1_93 : decode method_3_code 93 = .ok (.sipush 503, 3) := by decide +kernel
theorem d1_96 : decode method_3_code 96 = .ok (.ireturn, 1) := by decide +kernel
theorem pnco : plainName "com/example/coxswain/coxswain/api/ControllerExceptionIsPinLaw" = true := by first | (simp [plainName, overriddenIn]; done) | decide +kernel
theorem efco (m : MethodId) (x0 : Int32) : entryFrame m #[(.int x0)] 1 = mkF m 0 #[.val (.int x0)] [] := by first | (simp [entryFrame, mkF, argsToLocals, Value.category]; done) | rfl
def Qco (Z : State) (p1 : Int32) (h0 : Heap) (n0 : Nat) (v : Option Value) (h : Heap) (L : List Loc) : Prop := v = some (.int (cof p1)) ∧ Fr n0 L ∧ h = h0
set_option maxRecDepth 65536 in
set_option maxHeartbeats 40000000 in
theorem rmco (l : Launch) (Z : State) (a0 : Array Value) (hw : ∀ d ∈ tables_1, d.before a0 Z = true) (ws : List Jvm.Cond) (p1 : Int32) (h0 : Heap) (n0 : Nat) (Z0 : n0 ≤ h0.size) :
    MetFree l (⟨"com/example/coxswain/coxswain/api/ControllerExceptionIsPinLaw", "codeOf", "(I)I"⟩ : MethodName) (head1 (Jvm.Cond.code (⟨"com/example/coxswain/coxswain/api/ControllerExceptionIsPinLaw", "codeOf", "(I)I"⟩ : MethodName) method_3_code 1 (some .int) :: ws) ({ frames := 0, cells := 0, slots := 0, locals := 0 } : Room)) (fun aQ UQ => aQ = #[(.int p1)] ∧ Z.Warmed39 UQ.vm ∧ UQ.heap = h0) (fun _ _ _ _ _ => True) (fun _ U o U' => ∃ v L, o = .returned v ∧ Qco Z p1 h0 n0 v U'.heap L ∧ FrameEnd U o U' L ({ frames := 0, cells := 0, slots := 0, locals := 0 } : Room).cells ({ frames := 0, cells := 0, slots := 0, locals := 0 } : Room).slots) := by
  refine MetFree.of_bodySF (plainFor_of_name pnco) hisR ?_
  intro p e s m args below meth c s₁ Bd hml0 hP hK
  obtain ⟨rfl, hZ, hh⟩ := hP
  have hx := Bd.exec
  have hby := Bd.bytes
  have hml : c.maxLocals = 1 := hml0
  have hown : s.vm.findClass "com/example/coxswain/coxswain/api/ControllerExceptionIsPinLaw" = some m.cls := findClass_of_methodNamed Bd.named
  have hnm := (name_of_methodNamed Bd.named Bd.method).1
  have X0 : Stand p l e ({ frames := 0, cells := 0, slots := 0, locals := 0 } : Room) s m #[(.int p1)] below meth c s₁ [] 0 0 := Stand.of_body Bd
  have e0 : s₁.heap = h0 := by rw [← hh, Bd.state]; rfl
  have N0 := Fr.nil n0
  show OGo p e below (OPost s (Qco Z p1 h0 n0) ({ frames := 0, cells := 0, slots := 0, locals := 0 } : Room).cells ({ frames := 0, cells := 0, slots := 0, locals := 0 } : Room).slots) (s₁.setTop (entryFrame m #[(.int p1)] 1))
  refine OGo.step (fun uK kK => castTop (efco m p1) kK) ?_
  show OGo p e below _ (s₁.setTop (mkF m 0 #[.val (.int p1)] []))
  refine OGo.step (fun uK kK => XS.iloadN X0.here hx rfl (hb hby d1_0) rfl kK) ?_
  show OGo p e below _ (s₁.setTop (mkF m 1 #[.val (.int p1)] [(.int p1)]))
  by_cases hc1 : p1 = (0 : Int32)
  · skip
    refine OGo.step (fun uK kK => XS.ifNo X0.here hx rfl (hb hby d1_1) rfl ((if0 _ _).trans (teq hc1).2) kK) ?_
    show OGo p e below _ (s₁.setTop (mkF m 4 #[.val (.int p1)] []))
    refine OGo.step (fun uK kK => XS.sipush X0.here hx rfl (hb hby d1_4) kK) ?_
    show OGo p e below _ (s₁.setTop (mkF m 7 #[.val (.int p1)] [(.int (200 : Int32))]))
    exact OGo.retI X0 hx Bd.notSynchronized Bd.returns (hb hby d1_7) (by decide) (by decide) (by show Qco Z p1 h0 n0 _ s₁.heap _; rw [e0]; exact ⟨by rw [show cof p1 = (200 : Int32) from by unfold cof; rw [if_pos hc1]], N0, rfl⟩)
  · skip
    refine OGo.step (fun uK kK => XS.ifYes X0.here hx rfl (pc0 := 1) (pc' := 8) rfl (hb hby d1_1) rfl ((if0 _ _).trans (feq hc1).2) (by decide) (by decide) kK) ?_
    show OGo p e below _ (s₁.setTop (mkF m 8 #[.val (.int p1)] []))
    refine OGo.step (fun uK kK => XS.iloadN X0.here hx rfl (hb hby d1_8) rfl kK) ?_
    show OGo p e below _ (s₁.setTop (mkF m 9 #[.val (.int p1)] [(.int p1)]))
    refine OGo.step (fun uK kK => XS.iconst X0.here hx rfl (hb hby d1_9) kK) ?_
    show OGo p e below _ (s₁.setTop (mkF m 10 #[.val (.int p1)] [(.int (1 : Int32)), (.int p1)]))
    by_cases hc10 : p1 = (1 : Int32)
    · skip
      refine OGo.step (fun uK kK => XS.icmpNo X0.here hx rfl (hb hby d1_10) rfl (teq hc10).2 kK) ?_
      show OGo p e below _ (s₁.setTop (mkF m 13 #[.val (.int p1)] []))
      refine OGo.step (fun uK kK => XS.sipush X0.here hx rfl (hb hby d1_13) kK) ?_
      show OGo p e below _ (s₁.setTop (mkF m 16 #[.val (.int p1)] [(.int (400 : Int32))]))
      exact OGo.retI X0 hx Bd.notSynchronized Bd.returns (hb hby d1_16) (by decide) (by decide) (by show Qco Z p1 h0 n0 _ s₁.heap _; rw [e0]; exact ⟨by rw [show cof p1 = (400 : Int32) from by unfold cof; rw [if_neg hc1, if_pos hc10]], N0, rfl⟩)
    · skip
      refine OGo.step (fun uK kK => XS.icmpYes X0.here hx rfl (pc0 := 10) (pc' := 17) rfl (hb hby d1_10) rfl (feq hc10).2 (by decide) (by decide) kK) ?_
      show OGo p e below _ (s₁.setTop (mkF m 17 #[.val (.int p1)] []))
      refine OGo.step (fun uK kK => XS.iloadN X0.here hx rfl (hb hby d1_17) rfl kK) ?_
      show OGo p e below _ (s₁.setTop (mkF m 18 #[.val (.int p1)] [(.int p1)]))
      refine OGo.step (fun uK kK => XS.iconst X0.here hx rfl (hb hby d1_18) kK) ?_
      show OGo p e below _ (s₁.setTop (mkF m 19 #[.val (.int p1)] [(.int (2 : Int32)), (.int p1)]))
      by_cases hc19 : p1 = (2 : Int32)
      · skip
        refine OGo.step (fun uK kK => XS.icmpNo X0.here hx rfl (hb hby d1_19) rfl (teq hc19).2 kK) ?_
        show OGo p e below _ (s₁.setTop (mkF m 22 #[.val (.int p1)] []))
        refine OGo.step (fun uK kK => XS.sipush X0.here hx rfl (hb hby d1_22) kK) ?_
        show OGo p e below _ (s₁.setTop (mkF m 25 #[.val (.int p1)] [(.int (401 : Int32))]))
        exact OGo.retI X0 hx Bd.notSynchronized Bd.returns (hb hby d1_25) (by decide) (by decide) (by show Qco Z p1 h0 n0 _ s₁.heap _; rw [e0]; exact ⟨by rw [show cof p1 = (401 : Int32) from by unfold cof; rw [if_neg hc1, if_neg hc10, if_pos hc19]], N0, rfl⟩)
      · skip
        refine OGo.step (fun uK kK => XS.icmpYes X0.here hx rfl (pc0 := 19) (pc' := 26) rfl (hb hby d1_19) rfl (feq hc19).2 (by decide) (by decide) kK) ?_
        show OGo p e below _ (s₁.setTop (mkF m 26 #[.val (.int p1)] []))
        refine OGo.step (fun uK kK => XS.iloadN X0.here hx rfl (hb hby d1_26) rfl kK) ?_
        show OGo p e below _ (s₁.setTop (mkF m 27 #[.val (.int p1)] [(.int p1)]))
        refine OGo.step (fun uK kK => XS.iconst X0.here hx rfl (hb hby d1_27) kK) ?_
        show OGo p e below _ (s₁.setTop (mkF m 28 #[.val (.int p1)] [(.int (3 : Int32)), (.int p1)]))
        by_cases hc28 : p1 = (3 : Int32)
        · skip
          refine OGo.step (fun uK kK => XS.icmpNo X0.here hx rfl (hb hby d1_28) rfl (teq hc28).2 kK) ?_
          show OGo p e below _ (s₁.setTop (mkF m 31 #[.val (.int p1)] []))
          refine OGo.step (fun uK kK => XS.sipush X0.here hx rfl (hb hby d1_31) kK) ?_
          show OGo p e below _ (s₁.setTop (mkF m 34 #[.val (.int p1)] [(.int (403 : Int32))]))
          exact OGo.retI X0 hx Bd.notSynchronized Bd.returns (hb hby d1_34) (by decide) (by decide) (by show Qco Z p1 h0 n0 _ s₁.heap _; rw [e0]; exact ⟨by rw [show cof p1 = (403 : Int32) from by unfold cof; rw [if_neg hc1, if_neg hc10, if_neg hc19, if_pos hc28]], N0, rfl⟩)
        · skip
          refine OGo.step (fun uK kK => XS.icmpYes X0.here hx rfl (pc0 := 28) (pc' := 35) rfl (hb hby d1_28) rfl (feq hc28).2 (by decide) (by decide) kK) ?_
          show OGo p e below _ (s₁.setTop (mkF m 35 #[.val (.int p1)] []))
          refine OGo.step (fun uK kK => XS.iloadN X0.here hx rfl (hb hby d1_35) rfl kK) ?_
          show OGo p e below _ (s₁.setTop (mkF m 36 #[.val (.int p1)] [(.int p1)]))
          refine OGo.step (fun uK kK => XS.iconst X0.here hx rfl (hb hby d1_36) kK) ?_
          show OGo p e below _ (s₁.setTop (mkF m 37 #[.val (.int p1)] [(.int (4 : Int32)), (.int p1)]))
          by_cases hc37 : p1 = (4 : Int32)
          · skip
            refine OGo.step (fun uK kK => XS.icmpNo X0.here hx rfl (hb hby d1_37) rfl (teq hc37).2 kK) ?_
            show OGo p e below _ (s₁.setTop (mkF m 40 #[.val (.int p1)] []))
            refine OGo.step (fun uK kK => XS.sipush X0.here hx rfl (hb hby d1_40) kK) ?_
            show OGo p e below _ (s₁.setTop (mkF m 43 #[.val (.int p1)] [(.int (404 : Int32))]))
            exact OGo.retI X0 hx Bd.notSynchronized Bd.returns (hb hby d1_43) (by decide) (by decide) (by show Qco Z p1 h0 n0 _ s₁.heap _; rw [e0]; exact ⟨by rw [show cof p1 = (404 : Int32) from by unfold cof; rw [if_neg hc1, if_neg hc10, if_neg hc19, if_neg hc28, if_pos hc37]], N0, rfl⟩)
          · skip
            refine OGo.step (fun uK kK => XS.icmpYes X0.here hx rfl (pc0 := 37) (pc' := 44) rfl (hb hby d1_37) rfl (feq hc37).2 (by decide) (by decide) kK) ?_
            show OGo p e below _ (s₁.setTop (mkF m 44 #[.val (.int p1)] []))
            refine OGo.step (fun uK kK => XS.iloadN X0.here hx rfl (hb hby d1_44) rfl kK) ?_
            show OGo p e below _ (s₁.setTop (mkF m 45 #[.val (.int p1)] [(.int p1)]))
            refine OGo.step (fun uK kK => XS.iconst X0.here hx rfl (hb hby d1_45) kK) ?_
            show OGo p e below _ (s₁.setTop (mkF m 46 #[.val (.int p1)] [(.int (5 : Int32)), (.int p1)]))
            by_cases hc46 : p1 = (5 : Int32)
            · skip
              refine OGo.step (fun uK kK => XS.icmpNo X0.here hx rfl (hb hby d1_46) rfl (teq hc46).2 kK) ?_
              show OGo p e below _ (s₁.setTop (mkF m 49 #[.val (.int p1)] []))
              refine OGo.step (fun uK kK => XS.sipush X0.here hx rfl (hb hby d1_49) kK) ?_
              show OGo p e below _ (s₁.setTop (mkF m 52 #[.val (.int p1)] [(.int (405 : Int32))]))
              exact OGo.retI X0 hx Bd.notSynchronized Bd.returns (hb hby d1_52) (by decide) (by decide) (by show Qco Z p1 h0 n0 _ s₁.heap _; rw [e0]; exact ⟨by rw [show cof p1 = (405 : Int32) from by unfold cof; rw [if_neg hc1, if_neg hc10, if_neg hc19, if_neg hc28, if_neg hc37, if_pos hc46]], N0, rfl⟩)
            · skip
              refine OGo.step (fun uK kK => XS.icmpYes X0.here hx rfl (pc0 := 46) (pc' := 53) rfl (hb hby d1_46) rfl (feq hc46).2 (by decide) (by decide) kK) ?_
              show OGo p e below _ (s₁.setTop (mkF m 53 #[.val (.int p1)] []))
              refine OGo.step (fun uK kK => XS.iloadN X0.here hx rfl (hb hby d1_53) rfl kK) ?_
              show OGo p e below _ (s₁.setTop (mkF m 54 #[.val (.int p1)] [(.int p1)]))
              refine OGo.step (fun uK kK => XS.bipush X0.here hx rfl (hb hby d1_54) kK) ?_
              show OGo p e below _ (s₁.setTop (mkF m 56 #[.val (.int p1)] [(.int (6 : Int32)), (.int p1)]))
              by_cases hc56 : p1 = (6 : Int32)
              · skip
                refine OGo.step (fun uK kK => XS.icmpNo X0.here hx rfl (hb hby d1_56) rfl (teq hc56).2 kK) ?_
                show OGo p e below _ (s₁.setTop (mkF m 59 #[.val (.int p1)] []))
                refine OGo.step (fun uK kK => XS.sipush X0.here hx rfl (hb hby d1_59) kK) ?_
                show OGo p e below _ (s₁.setTop (mkF m 62 #[.val (.int p1)] [(.int (409 : Int32))]))
                exact OGo.retI X0 hx Bd.notSynchronized Bd.returns (hb hby d1_62) (by decide) (by decide) (by show Qco Z p1 h0 n0 _ s₁.heap _; rw [e0]; exact ⟨by rw [show cof p1 = (409 : Int32) from by unfold cof; rw [if_neg hc1, if_neg hc10, if_neg hc19, if_neg hc28, if_neg hc37, if_neg hc46, if_pos hc56]], N0, rfl⟩)
              · skip
                refine OGo.step (fun uK kK => XS.icmpYes X0.here hx rfl (pc0 := 56) (pc' := 63) rfl (hb hby d1_56) rfl (feq hc56).2 (by decide) (by decide) kK) ?_
                show OGo p e below _ (s₁.setTop (mkF m 63 #[.val (.int p1)] []))
                refine OGo.step (fun uK kK => XS.iloadN X0.here hx rfl (hb hby d1_63) rfl kK) ?_
                show OGo p e below _ (s₁.setTop (mkF m 64 #[.val (.int p1)] [(.int p1)]))
                refine OGo.step (fun uK kK => XS.bipush X0.here hx rfl (hb hby d1_64) kK) ?_
                show OGo p e below _ (s₁.setTop (mkF m 66 #[.val (.int p1)] [(.int (7 : Int32)), (.int p1)]))
                by_cases hc66 : p1 = (7 : Int32)
                · skip
                  refine OGo.step (fun uK kK => XS.icmpNo X0.here hx rfl (hb hby d1_66) rfl (teq hc66).2 kK) ?_
                  show OGo p e below _ (s₁.setTop (mkF m 69 #[.val (.int p1)] []))
                  refine OGo.step (fun uK kK => XS.sipush X0.here hx rfl (hb hby d1_69) kK) ?_
                  show OGo p e below _ (s₁.setTop (mkF m 72 #[.val (.int p1)] [(.int (413 : Int32))]))
                  exact OGo.retI X0 hx Bd.notSynchronized Bd.returns (hb hby d1_72) (by decide) (by decide) (by show Qco Z p1 h0 n0 _ s₁.heap _; rw [e0]; exact ⟨by rw [show cof p1 = (413 : Int32) from by unfold cof; rw [if_neg hc1, if_neg hc10, if_neg hc19, if_neg hc28, if_neg hc37, if_neg hc46, if_neg hc56, if_pos hc66]], N0, rfl⟩)
                · skip
                  refine OGo.step (fun uK kK => XS.icmpYes X0.here hx rfl (pc0 := 66) (pc' := 73) rfl (hb hby d1_66) rfl (feq hc66).2 (by decide) (by decide) kK) ?_
                  show OGo p e below _ (s₁.setTop (mkF m 73 #[.val (.int p1)] []))
                  refine OGo.step (fun uK kK => XS.iloadN X0.here hx rfl (hb hby d1_73) rfl kK) ?_
                  show OGo p e below _ (s₁.setTop (mkF m 74 #[.val (.int p1)] [(.int p1)]))
                  refine OGo.step (fun uK kK => XS.bipush X0.here hx rfl (hb hby d1_74) kK) ?_
                  show OGo p e below _ (s₁.setTop (mkF m 76 #[.val (.int p1)] [(.int (8 : Int32)), (.int p1)]))
                  by_cases hc76 : p1 = (8 : Int32)
                  · skip
                    refine OGo.step (fun uK kK => XS.icmpNo X0.here hx rfl (hb hby d1_76) rfl (teq hc76).2 kK) ?_
                    show OGo p e below _ (s₁.setTop (mkF m 79 #[.val (.int p1)] []))
                    refine OGo.step (fun uK kK => XS.sipush X0.here hx rfl (hb hby d1_79) kK) ?_
                    show OGo p e below _ (s₁.setTop (mkF m 82 #[.val (.int p1)] [(.int (421 : Int32))]))
                    exact OGo.retI X0 hx Bd.notSynchronized Bd.returns (hb hby d1_82) (by decide) (by decide) (by show Qco Z p1 h0 n0 _ s₁.heap _; rw [e0]; exact ⟨by rw [show cof p1 = (421 : Int32) from by unfold cof; rw [if_neg hc1, if_neg hc10, if_neg hc19, if_neg hc28, if_neg hc37, if_neg hc46, if_neg hc56, if_neg hc66, if_pos hc76]], N0, rfl⟩)
                  · skip
                    refine OGo.step (fun uK kK => XS.icmpYes X0.here hx rfl (pc0 := 76) (pc' := 83) rfl (hb hby d1_76) rfl (feq hc76).2 (by decide) (by decide) kK) ?_
                    show OGo p e below _ (s₁.setTop (mkF m 83 #[.val (.int p1)] []))
                    refine OGo.step (fun uK kK => XS.iloadN X0.here hx rfl (hb hby d1_83) rfl kK) ?_
                    show OGo p e below _ (s₁.setTop (mkF m 84 #[.val (.int p1)] [(.int p1)]))
                    refine OGo.step (fun uK kK => XS.bipush X0.here hx rfl (hb hby d1_84) kK) ?_
                    show OGo p e below _ (s₁.setTop (mkF m 86 #[.val (.int p1)] [(.int (9 : Int32)), (.int p1)]))
                    by_cases hc86 : p1 = (9 : Int32)
                    · skip
                      refine OGo.step (fun uK kK => XS.icmpNo X0.here hx rfl (hb hby d1_86) rfl (teq hc86).2 kK) ?_
                      show OGo p e below _ (s₁.setTop (mkF m 89 #[.val (.int p1)] []))
                      refine OGo.step (fun uK kK => XS.sipush X0.here hx rfl (hb hby d1_89) kK) ?_
                      show OGo p e below _ (s₁.setTop (mkF m 92 #[.val (.int p1)] [(.int (500 : Int32))]))
                      exact OGo.retI X0 hx Bd.notSynchronized Bd.returns (hb hby d1_92) (by decide) (by decide) (by show Qco Z p1 h0 n0 _ s₁.heap _; rw [e0]; exact ⟨by rw [show cof p1 = (500 : Int32) from by unfold cof; rw [if_neg hc1, if_neg hc10, if_neg hc19, if_neg hc28, if_neg hc37, if_neg hc46, if_neg hc56, if_neg hc66, if_neg hc76, if_pos hc86]], N0, rfl⟩)
                    · skip
                      refine OGo.step (fun uK kK => XS.icmpYes X0.here hx rfl (pc0 := 86) (pc' := 93) rfl (hb hby d1_86) rfl (feq hc86).2 (by decide) (by decide) kK) ?_
                      show OGo p e below _ (s₁.setTop (mkF m 93 #[.val (.int p1)] []))
                      refine OGo.step (fun uK kK => XS.sipush X0.here hx rfl (hb hby d1_93) kK) ?_
                      show OGo p e below _ (s₁.setTop (mkF m 96 #[.val (.int p1)] [(.int (503 : Int32))]))
                      exact OGo.retI X0 hx Bd.notSynchronized Bd.returns (hb hby d1_96) (by decide) (by decide) (by show Qco Z p1 h0 n0 _ s₁.heap _; rw [e0]; exact ⟨by rw [show cof p1 = (503 : Int32) from by unfold cof; rw [if_neg hc1, if_neg hc10, if_neg hc19, if_neg hc28, if_neg hc37, if_neg hc46, if_neg hc56, if_neg hc66, if_neg hc76, if_neg hc86]], N0, rfl⟩)
theorem d10_0 : decode method_2_code 0 = .ok (.iload_n 0, 1) := by decide +kernel
theorem d10_1 : decode method_2_code 1 = .ok (.ifCond .ne 7, 3) := by decide +kernel
theorem d10_4 : decode method_2_code 4 = .ok (.getstatic 7, 3) := by decide +kernel
theorem d10_7 : decode method_2_code 7 = .ok (.areturn, 1) := by decide +kernel
theorem d10_8 : decode method_2_code 8 = .ok (.iload_n 0, 1) := by decide +kernel
theorem d10_9 : decode method_2_code 9 = .ok (.iconst 1, 1) := by decide +kernel
theorem d10_10 : decode method_2_code 10 = .ok (.if_icmp .ne 7, 3) := by decide +kernel
theorem d10_13 : decode method_2_code 13 = .ok (.getstatic 13, 3) := by decide +kernel
theorem d10_16 : decode method_2_code 16 = .ok (.areturn, 1) := by decide +kernel
theorem d10_17 : decode method_2_code 17 = .ok (.iload_n 0, 1) := by decide +kernel
theorem d10_18 : decode method_2_code 18 = .ok (.iconst 2, 1) := by decide +kernel
theorem d10_19 : decode method_2_code 19 = .ok (.if_icmp .ne 7, 3) := by decide +kernel
theorem d10_22 : decode method_2_code 22 = .ok (.getstatic 16, 3) := by decide +kernel
theorem d10_25 : decode method_2_code 25 = .ok (.areturn, 1) := by decide +kernel
theorem d10_26 : decode method_2_code 26 = .ok (.iload_n 0, 1) := by decide +kernel
theorem d10_27 : decode method_2_code 27 = .ok (.iconst 3, 1) := by decide +kernel
theorem d10_28 : decode method_2_code 28 = .ok (.if_icmp .ne 7, 3) := by decide +kernel
theorem d10_31 : decode method_2_code 31 = .ok (.getstatic 19, 3) := by decide +kernel
theorem d10_34 : decode method_2_code 34 = .ok (.areturn, 1) := by decide +kernel
theorem d10_35 : decode method_2_code 35 = .ok (.iload_n 0, 1) := by decide +kernel
theorem d10_36 : decode method_2_code 36 = .ok (.iconst 4, 1) := by decide +kernel
theorem d10_37 : decode method_2_code 37 = .ok (.if_icmp .ne 7, 3) := by decide +kernel
theorem d10_40 : decode method_2_code 40 = .ok (.getstatic 22, 3) := by decide +kernel
theorem d10_43 : decode method_2_code 43 = .ok (.areturn, 1) := by decide +kernel
theorem d10_44 : decode method_2_code 44 = .ok (.iload_n 0, 1) := by decide +kernel
theorem d10_45 : decode method_2_code 45 = .ok (.iconst 5, 1) := by decide +kernel
theorem d10_46 : decode method_2_code 46 = .ok (.if_icmp .ne 7, 3) := by decide +kernel
theorem d10_49 : decode method_2_code 49 = .ok (.getstatic 25, 3) := by decide +kernel
theorem d10_52 : decode method_2_code 52 = .ok (.areturn, 1) := by decide +kernel
theorem d10_53 : decode method_2_code 53 = .ok (.iload_n 0, 1) := by decide +kernel
theorem d10_54 : decode method_2_code 54 = .ok (.bipush 6, 2) := by decide +kernel
theorem d10_56 : decode method_2_code 56 = .ok (.if_icmp .ne 7, 3) := by decide +kernel
theorem d10_59 : decode method_2_code 59 = .ok (.getstatic 28, 3) := by decide +kernel
theorem d10_62 : decode method_2_code 62 = .ok (.areturn, 1) := by decide +kernel
theorem d10_63 : decode method_2_code 63 = .ok (.iload_n 0, 1) := by decide +kernel
theorem d10_64 : decode method_2_code 64 = .ok (.bipush 7, 2) := by decide +kernel
theorem d10_66 : decode method_2_code 66 = .ok (.if_icmp .ne 7, 3) := by decide +kernel
theorem d10_69 : decode method_2_code 69 = .ok (.getstatic 31, 3) := by decide +kernel
theorem d10_72 : decode method_2_code 72 = .ok (.areturn, 1) := by decide +kernel
theorem d10_73 : decode method_2_code 73 = .ok (.iload_n 0, 1) := by decide +kernel
theorem d10_74 : decode method_2_code 74 = .ok (.bipush 8, 2) := by decide +kernel
theorem d10_76 : decode method_2_code 76 = .ok (.if_icmp .ne 7, 3) := by decide +kernel
theorem d10_79 : decode method_2_code 79 = .ok (.getstatic 34, 3) := by decide +kernel
theorem d10_82 : decode method_2_code 82 = .ok (.areturn, 1) := by decide +kernel
theorem d10_83 : decode method_2_code 83 = .ok (.iload_n 0, 1) := by decide +kernel
theorem d10_84 : decode method_2_code 84 = .ok (.bipush 9, 2) := by decide +kernel
theorem d10_86 : decode method_2_code 86 = .ok (.if_icmp .ne 7, 3) := by decide +kernel
theorem d10_89 : decode method_2_code 89 = .ok (.getstatic 37, 3) := by decide +kernel
theorem d10_92 : decode method_2_code 92 = .ok (.areturn, 1) := by decide +kernel
theorem d10_93 : decode method_2_code 93 = .ok (.getstatic 40, 3) := by decide +kernel
theorem d10_96 : decode method_2_code 96 = .ok (.areturn, 1) := by decide +kernel
theorem pncs : plainName "com/example/coxswain/coxswain/api/ControllerExceptionIsPinLaw" = true := by first | (simp [plainName, overriddenIn]; done) | decide +kernel
theorem efcs (m : MethodId) (x0 : Int32) : entryFrame m #[(.int x0)] 1 = mkF m 0 #[.val (.int x0)] [] := by first | (simp [entryFrame, mkF, argsToLocals, Value.category]; done) | rfl
def Qcs (Z : State) (p1 : Int32) (a_OK : Addr) (a_BAD_REQUEST : Addr) (a_UNAUTHORIZED : Addr) (a_FORBIDDEN : Addr) (a_NOT_FOUND : Addr) (a_METHOD_NOT_ALLOWED : Addr) (a_CONFLICT : Addr) (a_PAYLOAD_TOO_LARGE : Addr) (a_MISDIRECTED : Addr) (a_INTERNAL_ERROR : Addr) (a_UNAVAILABLE : Addr) (h0 : Heap) (n0 : Nat) (v : Option Value) (h : Heap) (L : List Loc) : Prop := ∃ r : Addr, v = some (.ref r) ∧ Fr n0 L ∧ h = h0 ∧ Exa Z h0 r "com/example/coxswain/coxswain/api/ApiStatus" ∧ Fld Z h0 r "com/example/coxswain/coxswain/api/ApiStatus" "code" "I" (.int (cof p1))
set_option maxRecDepth 65536 in
set_option maxHeartbeats 40000000 in
theorem rmcs (l : Launch) (Z : State) (a0 : Array Value) (hw : ∀ d ∈ tables_1, d.before a0 Z = true) (ws : List Jvm.Cond) (p1 : Int32) (a_OK : Addr) (a_BAD_REQUEST : Addr) (a_UNAUTHORIZED : Addr) (a_FORBIDDEN : Addr) (a_NOT_FOUND : Addr) (a_METHOD_NOT_ALLOWED : Addr) (a_CONFLICT : Addr) (a_PAYLOAD_TOO_LARGE : Addr) (a_MISDIRECTED : Addr) (a_INTERNAL_ERROR : Addr) (a_UNAVAILABLE : Addr) (h0 : Heap) (n0 : Nat) (Z0 : n0 ≤ h0.size) (H_OK : En Z Z.heap "OK" 200 a_OK) (H_BAD_REQUEST : En Z Z.heap "BAD_REQUEST" 400 a_BAD_REQUEST) (H_UNAUTHORIZED : En Z Z.heap "UNAUTHORIZED" 401 a_UNAUTHORIZED) (H_FORBIDDEN : En Z Z.heap "FORBIDDEN" 403 a_FORBIDDEN) (H_NOT_FOUND : En Z Z.heap "NOT_FOUND" 404 a_NOT_FOUND) (H_METHOD_NOT_ALLOWED : En Z Z.heap "METHOD_NOT_ALLOWED" 405 a_METHOD_NOT_ALLOWED) (H_CONFLICT : En Z Z.heap "CONFLICT" 409 a_CONFLICT) (H_PAYLOAD_TOO_LARGE : En Z Z.heap "PAYLOAD_TOO_LARGE" 413 a_PAYLOAD_TOO_LARGE) (H_MISDIRECTED : En Z Z.heap "MISDIRECTED" 421 a_MISDIRECTED) (H_INTERNAL_ERROR : En Z Z.heap "INTERNAL_ERROR" 500 a_INTERNAL_ERROR) (H_UNAVAILABLE : En Z Z.heap "UNAVAILABLE" 503 a_UNAVAILABLE) (Od : Old Z n0 h0) :
    MetFree l (⟨"com/example/coxswain/coxswain/api/ControllerExceptionIsPinLaw", "constOf", "(I)Lcom/example/coxswain/coxswain/api/ApiStatus;"⟩ : MethodName) (head1 (Jvm.Cond.code (⟨"com/example/coxswain/coxswain/api/ControllerExceptionIsPinLaw", "constOf", "(I)Lcom/example/coxswain/coxswain/api/ApiStatus;"⟩ : MethodName) method_2_code 1 (some (.object "com/example/coxswain/coxswain/api/ApiStatus")) :: ws) ({ frames := 0, cells := 0, slots := 0, locals := 0 } : Room)) (fun aQ UQ => aQ = #[(.int p1)] ∧ Z.Warmed39 UQ.vm ∧ UQ.heap = h0) (fun _ _ _ _ _ => True) (fun _ U o U' => ∃ v L, o = .returned v ∧ Qcs Z p1 a_OK a_BAD_REQUEST a_UNAUTHORIZED a_FORBIDDEN a_NOT_FOUND a_METHOD_NOT_ALLOWED a_CONFLICT a_PAYLOAD_TOO_LARGE a_MISDIRECTED a_INTERNAL_ERROR a_UNAVAILABLE h0 n0 v U'.heap L ∧ FrameEnd U o U' L ({ frames := 0, cells := 0, slots := 0, locals := 0 } : Room).cells ({ frames := 0, cells := 0, slots := 0, locals := 0 } : Room).slots) := by
  refine MetFree.of_bodySF (plainFor_of_name pncs) hisR ?_
  intro p e s m args below meth c s₁ Bd hml0 hP hK
  obtain ⟨rfl, hZ, hh⟩ := hP
  have hx := Bd.exec
  have hby := Bd.bytes
  have hml : c.maxLocals = 1 := hml0
  have hown : s.vm.findClass "com/example/coxswain/coxswain/api/ControllerExceptionIsPinLaw" = some m.cls := findClass_of_methodNamed Bd.named
  have hnm := (name_of_methodNamed Bd.named Bd.method).1
  have X0 : Stand p l e ({ frames := 0, cells := 0, slots := 0, locals := 0 } : Room) s m #[(.int p1)] below meth c s₁ [] 0 0 := Stand.of_body Bd
  have e0 : s₁.heap = h0 := by rw [← hh, Bd.state]; rfl
  have N0 := Fr.nil n0
  show OGo p e below (OPost s (Qcs Z p1 a_OK a_BAD_REQUEST a_UNAUTHORIZED a_FORBIDDEN a_NOT_FOUND a_METHOD_NOT_ALLOWED a_CONFLICT a_PAYLOAD_TOO_LARGE a_MISDIRECTED a_INTERNAL_ERROR a_UNAVAILABLE h0 n0) ({ frames := 0, cells := 0, slots := 0, locals := 0 } : Room).cells ({ frames := 0, cells := 0, slots := 0, locals := 0 } : Room).slots) (s₁.setTop (entryFrame m #[(.int p1)] 1))
  refine OGo.step (fun uK kK => castTop (efcs m p1) kK) ?_
  show OGo p e below _ (s₁.setTop (mkF m 0 #[.val (.int p1)] []))
  refine OGo.step (fun uK kK => XS.iloadN X0.here hx rfl (hb hby d10_0) rfl kK) ?_
  show OGo p e below _ (s₁.setTop (mkF m 1 #[.val (.int p1)] [(.int p1)]))
  by_cases hc1 : p1 = (0 : Int32)
  · skip
    refine OGo.step (fun uK kK => XS.ifNo X0.here hx rfl (hb hby d10_1) rfl ((if0 _ _).trans (teq hc1).2) kK) ?_
    show OGo p e below _ (s₁.setTop (mkF m 4 #[.val (.int p1)] []))
    obtain ⟨T1, X1, e1, st1⟩ := getS2 X0 hx hZ hown (host := "") (Or.inl (hw _ (List.mem_of_getElem? (i := 106) rfl))) Via.refl e0 (H_OK.1.ext Od.2) (g := (mkF m 4 #[.val (.int p1)] [])) rfl (hb hby d10_4)
    refine OGo.step (fun uK kK => st1 uK kK) ?_
    show OGo p e below _ (T1.setTop (mkF m 7 #[.val (.int p1)] [(.ref a_OK)]))
    exact OGo.retR X1 hx Bd.notSynchronized Bd.returns rfl rfl (hb hby d10_7) (by decide) (by decide) (by show Qcs Z p1 a_OK a_BAD_REQUEST a_UNAUTHORIZED a_FORBIDDEN a_NOT_FOUND a_METHOD_NOT_ALLOWED a_CONFLICT a_PAYLOAD_TOO_LARGE a_MISDIRECTED a_INTERNAL_ERROR a_UNAVAILABLE h0 n0 _ T1.heap _; rw [e1]; exact ⟨a_OK, rfl, N0, rfl, H_OK.2.1.ext Od.2, by rw [show cof p1 = (200 : Int32) from by unfold cof; rw [if_pos hc1]]; exact H_OK.2.2.ext Od.2⟩)
  · skip
    refine OGo.step (fun uK kK => XS.ifYes X0.here hx rfl (pc0 := 1) (pc' := 8) rfl (hb hby d10_1) rfl ((if0 _ _).trans (feq hc1).2) (by decide) (by decide) kK) ?_
    show OGo p e below _ (s₁.setTop (mkF m 8 #[.val (.int p1)] []))
    refine OGo.step (fun uK kK => XS.iloadN X0.here hx rfl (hb hby d10_8) rfl kK) ?_
    show OGo p e below _ (s₁.setTop (mkF m 9 #[.val (.int p1)] [(.int p1)]))
    refine OGo.step (fun uK kK => XS.iconst X0.here hx rfl (hb hby d10_9) kK) ?_
    show OGo p e below _ (s₁.setTop (mkF m 10 #[.val (.int p1)] [(.int (1 : Int32)), (.int p1)]))
    by_cases hc10 : p1 = (1 : Int32)
    · skip
      refine OGo.step (fun uK kK => XS.icmpNo X0.here hx rfl (hb hby d10_10) rfl (teq hc10).2 kK) ?_
      show OGo p e below _ (s₁.setTop (mkF m 13 #[.val (.int p1)] []))
      obtain ⟨T2, X2, e2, st2⟩ := getS2 X0 hx hZ hown (host := "") (Or.inl (hw _ (List.mem_of_getElem? (i := 100) rfl))) Via.refl e0 (H_BAD_REQUEST.1.ext Od.2) (g := (mkF m 13 #[.val (.int p1)] [])) rfl (hb hby d10_13)
      refine OGo.step (fun uK kK => st2 uK kK) ?_
      show OGo p e below _ (T2.setTop (mkF m 16 #[.val (.int p1)] [(.ref a_BAD_REQUEST)]))
      exact OGo.retR X2 hx Bd.notSynchronized Bd.returns rfl rfl (hb hby d10_16) (by decide) (by decide) (by show Qcs Z p1 a_OK a_BAD_REQUEST a_UNAUTHORIZED a_FORBIDDEN a_NOT_FOUND a_METHOD_NOT_ALLOWED a_CONFLICT a_PAYLOAD_TOO_LARGE a_MISDIRECTED a_INTERNAL_ERROR a_UNAVAILABLE h0 n0 _ T2.heap _; rw [e2]; exact ⟨a_BAD_REQUEST, rfl, N0, rfl, H_BAD_REQUEST.2.1.ext Od.2, by rw [show cof p1 = (400 : Int32) from by unfold cof; rw [if_neg hc1, if_pos hc10]]; exact H_BAD_REQUEST.2.2.ext Od.2⟩)
    · skip
      refine OGo.step (fun uK kK => XS.icmpYes X0.here hx rfl (pc0 := 10) (pc' := 17) rfl (hb hby d10_10) rfl (feq hc10).2 (by decide) (by decide) kK) ?_
      show OGo p e below _ (s₁.setTop (mkF m 17 #[.val (.int p1)] []))
      refine OGo.step (fun uK kK => XS.iloadN X0.here hx rfl (hb hby d10_17) rfl kK) ?_
      show OGo p e below _ (s₁.setTop (mkF m 18 #[.val (.int p1)] [(.int p1)]))
      refine OGo.step (fun uK kK => XS.iconst X0.here hx rfl (hb hby d10_18) kK) ?_
      show OGo p e below _ (s₁.setTop (mkF m 19 #[.val (.int p1)] [(.int (2 : Int32)), (.int p1)]))
      by_cases hc19 : p1 = (2 : Int32)
      · skip
        refine OGo.step (fun uK kK => XS.icmpNo X0.here hx rfl (hb hby d10_19) rfl (teq hc19).2 kK) ?_
        show OGo p e below _ (s₁.setTop (mkF m 22 #[.val (.int p1)] []))
        obtain ⟨T3, X3, e3, st3⟩ := getS2 X0 hx hZ hown (host := "") (Or.inl (hw _ (List.mem_of_getElem? (i := 112) rfl))) Via.refl e0 (H_UNAUTHORIZED.1.ext Od.2) (g := (mkF m 22 #[.val (.int p1)] [])) rfl (hb hby d10_22)
        refine OGo.step (fun uK kK => st3 uK kK) ?_
        show OGo p e below _ (T3.setTop (mkF m 25 #[.val (.int p1)] [(.ref a_UNAUTHORIZED)]))
        exact OGo.retR X3 hx Bd.notSynchronized Bd.returns rfl rfl (hb hby d10_25) (by decide) (by decide) (by show Qcs Z p1 a_OK a_BAD_REQUEST a_UNAUTHORIZED a_FORBIDDEN a_NOT_FOUND a_METHOD_NOT_ALLOWED a_CONFLICT a_PAYLOAD_TOO_LARGE a_MISDIRECTED a_INTERNAL_ERROR a_UNAVAILABLE h0 n0 _ T3.heap _; rw [e3]; exact ⟨a_UNAUTHORIZED, rfl, N0, rfl, H_UNAUTHORIZED.2.1.ext Od.2, by rw [show cof p1 = (401 : Int32) from by unfold cof; rw [if_neg hc1, if_neg hc10, if_pos hc19]]; exact H_UNAUTHORIZED.2.2.ext Od.2⟩)
      · skip
        refine OGo.step (fun uK kK => XS.icmpYes X0.here hx rfl (pc0 := 19) (pc' := 26) rfl (hb hby d10_19) rfl (feq hc19).2 (by decide) (by decide) kK) ?_
        show OGo p e below _ (s₁.setTop (mkF m 26 #[.val (.int p1)] []))
        refine OGo.step (fun uK kK => XS.iloadN X0.here hx rfl (hb hby d10_26) rfl kK) ?_
        show OGo p e below _ (s₁.setTop (mkF m 27 #[.val (.int p1)] [(.int p1)]))
        refine OGo.step (fun uK kK => XS.iconst X0.here hx rfl (hb hby d10_27) kK) ?_
        show OGo p e below _ (s₁.setTop (mkF m 28 #[.val (.int p1)] [(.int (3 : Int32)), (.int p1)]))
        by_cases hc28 : p1 = (3 : Int32)
        · skip
          refine OGo.step (fun uK kK => XS.icmpNo X0.here hx rfl (hb hby d10_28) rfl (teq hc28).2 kK) ?_
          show OGo p e below _ (s₁.setTop (mkF m 31 #[.val (.int p1)] []))
          obtain ⟨T4, X4, e4, st4⟩ := getS2 X0 hx hZ hown (host := "") (Or.inl (hw _ (List.mem_of_getElem? (i := 85) rfl))) Via.refl e0 (H_FORBIDDEN.1.ext Od.2) (g := (mkF m 31 #[.val (.int p1)] [])) rfl (hb hby d10_31)
          refine OGo.step (fun uK kK => st4 uK kK) ?_
          show OGo p e below _ (T4.setTop (mkF m 34 #[.val (.int p1)] [(.ref a_FORBIDDEN)]))
          exact OGo.retR X4 hx Bd.notSynchronized Bd.returns rfl rfl (hb hby d10_34) (by decide) (by decide) (by show Qcs Z p1 a_OK a_BAD_REQUEST a_UNAUTHORIZED a_FORBIDDEN a_NOT_FOUND a_METHOD_NOT_ALLOWED a_CONFLICT a_PAYLOAD_TOO_LARGE a_MISDIRECTED a_INTERNAL_ERROR a_UNAVAILABLE h0 n0 _ T4.heap _; rw [e4]; exact ⟨a_FORBIDDEN, rfl, N0, rfl, H_FORBIDDEN.2.1.ext Od.2, by rw [show cof p1 = (403 : Int32) from by unfold cof; rw [if_neg hc1, if_neg hc10, if_neg hc19, if_pos hc28]]; exact H_FORBIDDEN.2.2.ext Od.2⟩)
        · skip
          refine OGo.step (fun uK kK => XS.icmpYes X0.here hx rfl (pc0 := 28) (pc' := 35) rfl (hb hby d10_28) rfl (feq hc28).2 (by decide) (by decide) kK) ?_
          show OGo p e below _ (s₁.setTop (mkF m 35 #[.val (.int p1)] []))
          refine OGo.step (fun uK kK => XS.iloadN X0.here hx rfl (hb hby d10_35) rfl kK) ?_
          show OGo p e below _ (s₁.setTop (mkF m 36 #[.val (.int p1)] [(.int p1)]))
          refine OGo.step (fun uK kK => XS.iconst X0.here hx rfl (hb hby d10_36) kK) ?_
          show OGo p e below _ (s₁.setTop (mkF m 37 #[.val (.int p1)] [(.int (4 : Int32)), (.int p1)]))
          by_cases hc37 : p1 = (4 : Int32)
          · skip
            refine OGo.step (fun uK kK => XS.icmpNo X0.here hx rfl (hb hby d10_37) rfl (teq hc37).2 kK) ?_
            show OGo p e below _ (s₁.setTop (mkF m 40 #[.val (.int p1)] []))
            obtain ⟨T5, X5, e5, st5⟩ := getS2 X0 hx hZ hown (host := "") (Or.inl (hw _ (List.mem_of_getElem? (i := 118) rfl))) Via.refl e0 (H_NOT_FOUND.1.ext Od.2) (g := (mkF m 40 #[.val (.int p1)] [])) rfl (hb hby d10_40)
            refine OGo.step (fun uK kK => st5 uK kK) ?_
            show OGo p e below _ (T5.setTop (mkF m 43 #[.val (.int p1)] [(.ref a_NOT_FOUND)]))
            exact OGo.retR X5 hx Bd.notSynchronized Bd.returns rfl rfl (hb hby d10_43) (by decide) (by decide) (by show Qcs Z p1 a_OK a_BAD_REQUEST a_UNAUTHORIZED a_FORBIDDEN a_NOT_FOUND a_METHOD_NOT_ALLOWED a_CONFLICT a_PAYLOAD_TOO_LARGE a_MISDIRECTED a_INTERNAL_ERROR a_UNAVAILABLE h0 n0 _ T5.heap _; rw [e5]; exact ⟨a_NOT_FOUND, rfl, N0, rfl, H_NOT_FOUND.2.1.ext Od.2, by rw [show cof p1 = (404 : Int32) from by unfold cof; rw [if_neg hc1, if_neg hc10, if_neg hc19, if_neg hc28, if_pos hc37]]; exact H_NOT_FOUND.2.2.ext Od.2⟩)
          · skip
            refine OGo.step (fun uK kK => XS.icmpYes X0.here hx rfl (pc0 := 37) (pc' := 44) rfl (hb hby d10_37) rfl (feq hc37).2 (by decide) (by decide) kK) ?_
            show OGo p e below _ (s₁.setTop (mkF m 44 #[.val (.int p1)] []))
            refine OGo.step (fun uK kK => XS.iloadN X0.here hx rfl (hb hby d10_44) rfl kK) ?_
            show OGo p e below _ (s₁.setTop (mkF m 45 #[.val (.int p1)] [(.int p1)]))
            refine OGo.step (fun uK kK => XS.iconst X0.here hx rfl (hb hby d10_45) kK) ?_
            show OGo p e below _ (s₁.setTop (mkF m 46 #[.val (.int p1)] [(.int (5 : Int32)), (.int p1)]))
            by_cases hc46 : p1 = (5 : Int32)
            · skip
              refine OGo.step (fun uK kK => XS.icmpNo X0.here hx rfl (hb hby d10_46) rfl (teq hc46).2 kK) ?_
              show OGo p e below _ (s₁.setTop (mkF m 49 #[.val (.int p1)] []))
              obtain ⟨T6, X6, e6, st6⟩ := getS2 X0 hx hZ hown (host := "") (Or.inl (hw _ (List.mem_of_getElem? (i := 110) rfl))) Via.refl e0 (H_METHOD_NOT_ALLOWED.1.ext Od.2) (g := (mkF m 49 #[.val (.int p1)] [])) rfl (hb hby d10_49)
              refine OGo.step (fun uK kK => st6 uK kK) ?_
              show OGo p e below _ (T6.setTop (mkF m 52 #[.val (.int p1)] [(.ref a_METHOD_NOT_ALLOWED)]))
              exact OGo.retR X6 hx Bd.notSynchronized Bd.returns rfl rfl (hb hby d10_52) (by decide) (by decide) (by show Qcs Z p1 a_OK a_BAD_REQUEST a_UNAUTHORIZED a_FORBIDDEN a_NOT_FOUND a_METHOD_NOT_ALLOWED a_CONFLICT a_PAYLOAD_TOO_LARGE a_MISDIRECTED a_INTERNAL_ERROR a_UNAVAILABLE h0 n0 _ T6.heap _; rw [e6]; exact ⟨a_METHOD_NOT_ALLOWED, rfl, N0, rfl, H_METHOD_NOT_ALLOWED.2.1.ext Od.2, by rw [show cof p1 = (405 : Int32) from by unfold cof; rw [if_neg hc1, if_neg hc10, if_neg hc19, if_neg hc28, if_neg hc37, if_pos hc46]]; exact H_METHOD_NOT_ALLOWED.2.2.ext Od.2⟩)
            · skip
              refine OGo.step (fun uK kK => XS.icmpYes X0.here hx rfl (pc0 := 46) (pc' := 53) rfl (hb hby d10_46) rfl (feq hc46).2 (by decide) (by decide) kK) ?_
              show OGo p e below _ (s₁.setTop (mkF m 53 #[.val (.int p1)] []))
              refine OGo.step (fun uK kK => XS.iloadN X0.here hx rfl (hb hby d10_53) rfl kK) ?_
              show OGo p e below _ (s₁.setTop (mkF m 54 #[.val (.int p1)] [(.int p1)]))
              refine OGo.step (fun uK kK => XS.bipush X0.here hx rfl (hb hby d10_54) kK) ?_
              show OGo p e below _ (s₁.setTop (mkF m 56 #[.val (.int p1)] [(.int (6 : Int32)), (.int p1)]))
              by_cases hc56 : p1 = (6 : Int32)
              · skip
                refine OGo.step (fun uK kK => XS.icmpNo X0.here hx rfl (hb hby d10_56) rfl (teq hc56).2 kK) ?_
                show OGo p e below _ (s₁.setTop (mkF m 59 #[.val (.int p1)] []))
                obtain ⟨T7, X7, e7, st7⟩ := getS2 X0 hx hZ hown (host := "") (Or.inl (hw _ (List.mem_of_getElem? (i := 114) rfl))) Via.refl e0 (H_CONFLICT.1.ext Od.2) (g := (mkF m 59 #[.val (.int p1)] [])) rfl (hb hby d10_59)
                refine OGo.step (fun uK kK => st7 uK kK) ?_
                show OGo p e below _ (T7.setTop (mkF m 62 #[.val (.int p1)] [(.ref a_CONFLICT)]))
                exact OGo.retR X7 hx Bd.notSynchronized Bd.returns rfl rfl (hb hby d10_62) (by decide) (by decide) (by show Qcs Z p1 a_OK a_BAD_REQUEST a_UNAUTHORIZED a_FORBIDDEN a_NOT_FOUND a_METHOD_NOT_ALLOWED a_CONFLICT a_PAYLOAD_TOO_LARGE a_MISDIRECTED a_INTERNAL_ERROR a_UNAVAILABLE h0 n0 _ T7.heap _; rw [e7]; exact ⟨a_CONFLICT, rfl, N0, rfl, H_CONFLICT.2.1.ext Od.2, by rw [show cof p1 = (409 : Int32) from by unfold cof; rw [if_neg hc1, if_neg hc10, if_neg hc19, if_neg hc28, if_neg hc37, if_neg hc46, if_pos hc56]]; exact H_CONFLICT.2.2.ext Od.2⟩)
              · skip
                refine OGo.step (fun uK kK => XS.icmpYes X0.here hx rfl (pc0 := 56) (pc' := 63) rfl (hb hby d10_56) rfl (feq hc56).2 (by decide) (by decide) kK) ?_
                show OGo p e below _ (s₁.setTop (mkF m 63 #[.val (.int p1)] []))
                refine OGo.step (fun uK kK => XS.iloadN X0.here hx rfl (hb hby d10_63) rfl kK) ?_
                show OGo p e below _ (s₁.setTop (mkF m 64 #[.val (.int p1)] [(.int p1)]))
                refine OGo.step (fun uK kK => XS.bipush X0.here hx rfl (hb hby d10_64) kK) ?_
                show OGo p e below _ (s₁.setTop (mkF m 66 #[.val (.int p1)] [(.int (7 : Int32)), (.int p1)]))
                by_cases hc66 : p1 = (7 : Int32)
                · skip
                  refine OGo.step (fun uK kK => XS.icmpNo X0.here hx rfl (hb hby d10_66) rfl (teq hc66).2 kK) ?_
                  show OGo p e below _ (s₁.setTop (mkF m 69 #[.val (.int p1)] []))
                  obtain ⟨T8, X8, e8, st8⟩ := getS2 X0 hx hZ hown (host := "") (Or.inl (hw _ (List.mem_of_getElem? (i := 108) rfl))) Via.refl e0 (H_PAYLOAD_TOO_LARGE.1.ext Od.2) (g := (mkF m 69 #[.val (.int p1)] [])) rfl (hb hby d10_69)
                  refine OGo.step (fun uK kK => st8 uK kK) ?_
                  show OGo p e below _ (T8.setTop (mkF m 72 #[.val (.int p1)] [(.ref a_PAYLOAD_TOO_LARGE)]))
                  exact OGo.retR X8 hx Bd.notSynchronized Bd.returns rfl rfl (hb hby d10_72) (by decide) (by decide) (by show Qcs Z p1 a_OK a_BAD_REQUEST a_UNAUTHORIZED a_FORBIDDEN a_NOT_FOUND a_METHOD_NOT_ALLOWED a_CONFLICT a_PAYLOAD_TOO_LARGE a_MISDIRECTED a_INTERNAL_ERROR a_UNAVAILABLE h0 n0 _ T8.heap _; rw [e8]; exact ⟨a_PAYLOAD_TOO_LARGE, rfl, N0, rfl, H_PAYLOAD_TOO_LARGE.2.1.ext Od.2, by rw [show cof p1 = (413 : Int32) from by unfold cof; rw [if_neg hc1, if_neg hc10, if_neg hc19, if_neg hc28, if_neg hc37, if_neg hc46, if_neg hc56, if_pos hc66]]; exact H_PAYLOAD_TOO_LARGE.2.2.ext Od.2⟩)
                · skip
                  refine OGo.step (fun uK kK => XS.icmpYes X0.here hx rfl (pc0 := 66) (pc' := 73) rfl (hb hby d10_66) rfl (feq hc66).2 (by decide) (by decide) kK) ?_
                  show OGo p e below _ (s₁.setTop (mkF m 73 #[.val (.int p1)] []))
                  refine OGo.step (fun uK kK => XS.iloadN X0.here hx rfl (hb hby d10_73) rfl kK) ?_
                  show OGo p e below _ (s₁.setTop (mkF m 74 #[.val (.int p1)] [(.int p1)]))
                  refine OGo.step (fun uK kK => XS.bipush X0.here hx rfl (hb hby d10_74) kK) ?_
                  show OGo p e below _ (s₁.setTop (mkF m 76 #[.val (.int p1)] [(.int (8 : Int32)), (.int p1)]))
                  by_cases hc76 : p1 = (8 : Int32)
                  · skip
                    refine OGo.step (fun uK kK => XS.icmpNo X0.here hx rfl (hb hby d10_76) rfl (teq hc76).2 kK) ?_
                    show OGo p e below _ (s₁.setTop (mkF m 79 #[.val (.int p1)] []))
                    obtain ⟨T9, X9, e9, st9⟩ := getS2 X0 hx hZ hown (host := "") (Or.inl (hw _ (List.mem_of_getElem? (i := 102) rfl))) Via.refl e0 (H_MISDIRECTED.1.ext Od.2) (g := (mkF m 79 #[.val (.int p1)] [])) rfl (hb hby d10_79)
                    refine OGo.step (fun uK kK => st9 uK kK) ?_
                    show OGo p e below _ (T9.setTop (mkF m 82 #[.val (.int p1)] [(.ref a_MISDIRECTED)]))
                    exact OGo.retR X9 hx Bd.notSynchronized Bd.returns rfl rfl (hb hby d10_82) (by decide) (by decide) (by show Qcs Z p1 a_OK a_BAD_REQUEST a_UNAUTHORIZED a_FORBIDDEN a_NOT_FOUND a_METHOD_NOT_ALLOWED a_CONFLICT a_PAYLOAD_TOO_LARGE a_MISDIRECTED a_INTERNAL_ERROR a_UNAVAILABLE h0 n0 _ T9.heap _; rw [e9]; exact ⟨a_MISDIRECTED, rfl, N0, rfl, H_MISDIRECTED.2.1.ext Od.2, by rw [show cof p1 = (421 : Int32) from by unfold cof; rw [if_neg hc1, if_neg hc10, if_neg hc19, if_neg hc28, if_neg hc37, if_neg hc46, if_neg hc56, if_neg hc66, if_pos hc76]]; exact H_MISDIRECTED.2.2.ext Od.2⟩)
                  · skip
                    refine OGo.step (fun uK kK => XS.icmpYes X0.here hx rfl (pc0 := 76) (pc' := 83) rfl (hb hby d10_76) rfl (feq hc76).2 (by decide) (by decide) kK) ?_
                    show OGo p e below _ (s₁.setTop (mkF m 83 #[.val (.int p1)] []))
                    refine OGo.step (fun uK kK => XS.iloadN X0.here hx rfl (hb hby d10_83) rfl kK) ?_
                    show OGo p e below _ (s₁.setTop (mkF m 84 #[.val (.int p1)] [(.int p1)]))
                    refine OGo.step (fun uK kK => XS.bipush X0.here hx rfl (hb hby d10_84) kK) ?_
                    show OGo p e below _ (s₁.setTop (mkF m 86 #[.val (.int p1)] [(.int (9 : Int32)), (.int p1)]))
                    by_cases hc86 : p1 = (9 : Int32)
                    · skip
                      refine OGo.step (fun uK kK => XS.icmpNo X0.here hx rfl (hb hby d10_86) rfl (teq hc86).2 kK) ?_
                      show OGo p e below _ (s₁.setTop (mkF m 89 #[.val (.int p1)] []))
                      obtain ⟨T10, X10, e10, st10⟩ := getS2 X0 hx hZ hown (host := "") (Or.inl (hw _ (List.mem_of_getElem? (i := 116) rfl))) Via.refl e0 (H_INTERNAL_ERROR.1.ext Od.2) (g := (mkF m 89 #[.val (.int p1)] [])) rfl (hb hby d10_89)
                      refine OGo.step (fun uK kK => st10 uK kK) ?_
                      show OGo p e below _ (T10.setTop (mkF m 92 #[.val (.int p1)] [(.ref a_INTERNAL_ERROR)]))
                      exact OGo.retR X10 hx Bd.notSynchronized Bd.returns rfl rfl (hb hby d10_92) (by decide) (by decide) (by show Qcs Z p1 a_OK a_BAD_REQUEST a_UNAUTHORIZED a_FORBIDDEN a_NOT_FOUND a_METHOD_NOT_ALLOWED a_CONFLICT a_PAYLOAD_TOO_LARGE a_MISDIRECTED a_INTERNAL_ERROR a_UNAVAILABLE h0 n0 _ T10.heap _; rw [e10]; exact ⟨a_INTERNAL_ERROR, rfl, N0, rfl, H_INTERNAL_ERROR.2.1.ext Od.2, by rw [show cof p1 = (500 : Int32) from by unfold cof; rw [if_neg hc1, if_neg hc10, if_neg hc19, if_neg hc28, if_neg hc37, if_neg hc46, if_neg hc56, if_neg hc66, if_neg hc76, if_pos hc86]]; exact H_INTERNAL_ERROR.2.2.ext Od.2⟩)
                    · skip
                      refine OGo.step (fun uK kK => XS.icmpYes X0.here hx rfl (pc0 := 86) (pc' := 93) rfl (hb hby d10_86) rfl (feq hc86).2 (by decide) (by decide) kK) ?_
                      show OGo p e below _ (s₁.setTop (mkF m 93 #[.val (.int p1)] []))
                      obtain ⟨T11, X11, e11, st11⟩ := getS2 X0 hx hZ hown (host := "") (Or.inl (hw _ (List.mem_of_getElem? (i := 104) rfl))) Via.refl e0 (H_UNAVAILABLE.1.ext Od.2) (g := (mkF m 93 #[.val (.int p1)] [])) rfl (hb hby d10_93)
                      refine OGo.step (fun uK kK => st11 uK kK) ?_
                      show OGo p e below _ (T11.setTop (mkF m 96 #[.val (.int p1)] [(.ref a_UNAVAILABLE)]))
                      exact OGo.retR X11 hx Bd.notSynchronized Bd.returns rfl rfl (hb hby d10_96) (by decide) (by decide) (by show Qcs Z p1 a_OK a_BAD_REQUEST a_UNAUTHORIZED a_FORBIDDEN a_NOT_FOUND a_METHOD_NOT_ALLOWED a_CONFLICT a_PAYLOAD_TOO_LARGE a_MISDIRECTED a_INTERNAL_ERROR a_UNAVAILABLE h0 n0 _ T11.heap _; rw [e11]; exact ⟨a_UNAVAILABLE, rfl, N0, rfl, H_UNAVAILABLE.2.1.ext Od.2, by rw [show cof p1 = (503 : Int32) from by unfold cof; rw [if_neg hc1, if_neg hc10, if_neg hc19, if_neg hc28, if_neg hc37, if_neg hc46, if_neg hc56, if_neg hc66, if_neg hc76, if_neg hc86]]; exact H_UNAVAILABLE.2.2.ext Od.2⟩)
theorem d12_0 : decode prog_3_method_4_code 0 = .ok (.aload_n 0, 1) := by decide +kernel
theorem d12_1 : decode prog_3_method_4_code 1 = .ok (.getfield 56, 3) := by decide +kernel
theorem d12_4 : decode prog_3_method_4_code 4 = .ok (.ireturn, 1) := by decide +kernel
theorem pncd : plainName "com/example/coxswain/coxswain/api/ApiStatus" = true := by first | (simp [plainName, overriddenIn]; done) | decide +kernel
theorem efcd (m : MethodId) (x0 : Addr) : entryFrame m #[(.ref x0)] 1 = mkF m 0 #[.val (.ref x0)] [] := by first | (simp [entryFrame, mkF, argsToLocals, Value.category]; done) | rfl
def Qcd (Z : State) (a : Addr) (cd : Int32) (h0 : Heap) (n0 : Nat) (v : Option Value) (h : Heap) (L : List Loc) : Prop := v = some (.int cd) ∧ Fr n0 L ∧ h = h0
set_option maxRecDepth 65536 in
set_option maxHeartbeats 40000000 in
theorem rmcd (l : Launch) (Z : State) (a0 : Array Value) (hw : ∀ d ∈ tables_1, d.before a0 Z = true) (ws : List Jvm.Cond) (a : Addr) (cd : Int32) (h0 : Heap) (n0 : Nat) (Z0 : n0 ≤ h0.size) (Fc : Fld Z h0 a "com/example/coxswain/coxswain/api/ApiStatus" "code" "I" (.int cd)) :
    MetFree l (⟨"com/example/coxswain/coxswain/api/ApiStatus", "code", "()I"⟩ : MethodName) (head1 (Jvm.Cond.code (⟨"com/example/coxswain/coxswain/api/ApiStatus", "code", "()I"⟩ : MethodName) prog_3_method_4_code 1 (some .int) :: ws) ({ frames := 0, cells := 0, slots := 0, locals := 0 } : Room)) (fun aQ UQ => aQ = #[(.ref a)] ∧ Z.Warmed39 UQ.vm ∧ UQ.heap = h0) (fun _ _ _ _ _ => True) (fun _ U o U' => ∃ v L, o = .returned v ∧ Qcd Z a cd h0 n0 v U'.heap L ∧ FrameEnd U o U' L ({ frames := 0, cells := 0, slots := 0, locals := 0 } : Room).cells ({ frames := 0, cells := 0, slots := 0, locals := 0 } : Room).slots) := by
  refine MetFree.of_bodySF (plainFor_of_name pncd) hisR ?_
  intro p e s m args below meth c s₁ Bd hml0 hP hK
  obtain ⟨rfl, hZ, hh⟩ := hP
  have hx := Bd.exec
  have hby := Bd.bytes
  have hml : c.maxLocals = 1 := hml0
  have hown : s.vm.findClass "com/example/coxswain/coxswain/api/ApiStatus" = some m.cls := findClass_of_methodNamed Bd.named
  have hnm := (name_of_methodNamed Bd.named Bd.method).1
  have X0 : Stand p l e ({ frames := 0, cells := 0, slots := 0, locals := 0 } : Room) s m #[(.ref a)] below meth c s₁ [] 0 0 := Stand.of_body Bd
  have e0 : s₁.heap = h0 := by rw [← hh, Bd.state]; rfl
  have N0 := Fr.nil n0
  show OGo p e below (OPost s (Qcd Z a cd h0 n0) ({ frames := 0, cells := 0, slots := 0, locals := 0 } : Room).cells ({ frames := 0, cells := 0, slots := 0, locals := 0 } : Room).slots) (s₁.setTop (entryFrame m #[(.ref a)] 1))
  refine OGo.step (fun uK kK => castTop (efcd m a) kK) ?_
  show OGo p e below _ (s₁.setTop (mkF m 0 #[.val (.ref a)] []))
  refine OGo.step (fun uK kK => XS.aloadN X0.here hx rfl (hb hby d12_0) rfl rfl kK) ?_
  show OGo p e below _ (s₁.setTop (mkF m 1 #[.val (.ref a)] [(.ref a)]))
  obtain ⟨T1, X1, e1, st1⟩ := getF X0 hx hZ hown (host := "") (Or.inl (hw _ (List.mem_of_getElem? (i := 98) rfl))) Via.refl e0 Fc (g := (mkF m 1 #[.val (.ref a)] [(.ref a)])) rfl rfl (hb hby d12_1)
  refine OGo.step (fun uK kK => st1 uK kK) ?_
  show OGo p e below _ (T1.setTop (mkF m 4 #[.val (.ref a)] [(.int cd)]))
  exact OGo.retI X1 hx Bd.notSynchronized Bd.returns (hb hby d12_4) (by decide) (by decide) (by show Qcd Z a cd h0 n0 _ T1.heap _; rw [e1]; exact ⟨rfl, N0, rfl⟩)
theorem d11_0 : decode prog_5_method_6_code 0 = .ok (.aload_n 0, 1) := by decide +kernel
theorem d11_1 : decode prog_5_method_6_code 1 = .ok (.getfield 18, 3) := by decide +kernel
theorem d11_4 : decode prog_5_method_6_code 4 = .ok (.aload_n 1, 1) := by decide +kernel
theorem d11_5 : decode prog_5_method_6_code 5 = .ok (.invokevirtual 1, 3) := by decide +kernel
theorem d11_8 : decode prog_5_method_6_code 8 = .ok (.if_icmp .ne 7, 3) := by decide +kernel
theorem d11_11 : decode prog_5_method_6_code 11 = .ok (.iconst 1, 1) := by decide +kernel
theorem d11_12 : decode prog_5_method_6_code 12 = .ok (.goto 4, 3) := by decide +kernel
theorem d11_15 : decode prog_5_method_6_code 15 = .ok (.iconst 0, 1) := by decide +kernel
theorem d11_16 : decode prog_5_method_6_code 16 = .ok (.ireturn, 1) := by decide +kernel
theorem pnis : plainName "com/example/coxswain/coxswain/api/ControllerException" = true := by first | (simp [plainName, overriddenIn]; done) | decide +kernel
theorem pdis_0 : parseMethodDescriptor "()I" = some ⟨[], some .int⟩ := by decide +kernel
theorem efis (m : MethodId) (x0 : Addr) (x1 : Addr) : entryFrame m #[(.ref x0), (.ref x1)] 2 = mkF m 0 #[.val (.ref x0), .val (.ref x1)] [] := by first | (simp [entryFrame, mkF, argsToLocals, Value.category]; done) | rfl
def Qis (Z : State) (a : Addr) (r : Addr) (sv : Int32) (cd : Int32) (h0 : Heap) (n0 : Nat) (v : Option Value) (h : Heap) (L : List Loc) : Prop := v = some (.int (nar .boolean (if sv = cd then (1 : Int32) else (0 : Int32)))) ∧ Fr n0 L ∧ h = h0
set_option maxRecDepth 65536 in
set_option maxHeartbeats 40000000 in
theorem rmis (l : Launch) (Z : State) (a0 : Array Value) (hw : ∀ d ∈ tables_1, d.before a0 Z = true) (ws : List Jvm.Cond) (a : Addr) (r : Addr) (sv : Int32) (cd : Int32) (h0 : Heap) (n0 : Nat) (Z0 : n0 ≤ h0.size) (Fs : Fld Z h0 a "com/example/coxswain/coxswain/api/ControllerException" "status" "I" (.int sv)) (Er : Exa Z h0 r "com/example/coxswain/coxswain/api/ApiStatus") (Fc : Fld Z h0 r "com/example/coxswain/coxswain/api/ApiStatus" "code" "I" (.int cd)) :
    MetFree l (⟨"com/example/coxswain/coxswain/api/ControllerException", "is", "(Lcom/example/coxswain/coxswain/api/ApiStatus;)Z"⟩ : MethodName) (head1 (Jvm.Cond.code (⟨"com/example/coxswain/coxswain/api/ControllerException", "is", "(Lcom/example/coxswain/coxswain/api/ApiStatus;)Z"⟩ : MethodName) prog_5_method_6_code 2 (some .boolean) :: ws) ({ frames := 1, cells := 0, slots := 0, locals := 13 } : Room)) (fun aQ UQ => aQ = #[(.ref a), (.ref r)] ∧ Z.Warmed39 UQ.vm ∧ UQ.heap = h0) (fun _ _ _ _ _ => True) (fun _ U o U' => ∃ v L, o = .returned v ∧ Qis Z a r sv cd h0 n0 v U'.heap L ∧ FrameEnd U o U' L ({ frames := 1, cells := 0, slots := 0, locals := 13 } : Room).cells ({ frames := 1, cells := 0, slots := 0, locals := 13 } : Room).slots) := by
  refine MetFree.of_bodySF (plainFor_of_name pnis) hisR ?_
  intro p e s m args below meth c s₁ Bd hml0 hP hK
  obtain ⟨rfl, hZ, hh⟩ := hP
  have hx := Bd.exec
  have hby := Bd.bytes
  have hml : c.maxLocals = 2 := hml0
  have hown : s.vm.findClass "com/example/coxswain/coxswain/api/ControllerException" = some m.cls := findClass_of_methodNamed Bd.named
  have hnm := (name_of_methodNamed Bd.named Bd.method).1
  have X0 : Stand p l e ({ frames := 1, cells := 0, slots := 0, locals := 13 } : Room) s m #[(.ref a), (.ref r)] below meth c s₁ [] 0 0 := Stand.of_body Bd
  have e0 : s₁.heap = h0 := by rw [← hh, Bd.state]; rfl
  have N0 := Fr.nil n0
  show OGo p e below (OPost s (Qis Z a r sv cd h0 n0) ({ frames := 1, cells := 0, slots := 0, locals := 13 } : Room).cells ({ frames := 1, cells := 0, slots := 0, locals := 13 } : Room).slots) (s₁.setTop (entryFrame m #[(.ref a), (.ref r)] 2))
  refine OGo.step (fun uK kK => castTop (efis m a r) kK) ?_
  show OGo p e below _ (s₁.setTop (mkF m 0 #[.val (.ref a), .val (.ref r)] []))
  refine OGo.step (fun uK kK => XS.aloadN X0.here hx rfl (hb hby d11_0) rfl rfl kK) ?_
  show OGo p e below _ (s₁.setTop (mkF m 1 #[.val (.ref a), .val (.ref r)] [(.ref a)]))
  obtain ⟨T1, X1, e1, st1⟩ := getF X0 hx hZ hown (host := "") (Or.inl (hw _ (List.mem_of_getElem? (i := 78) rfl))) Via.refl e0 Fs (g := (mkF m 1 #[.val (.ref a), .val (.ref r)] [(.ref a)])) rfl rfl (hb hby d11_1)
  refine OGo.step (fun uK kK => st1 uK kK) ?_
  show OGo p e below _ (T1.setTop (mkF m 4 #[.val (.ref a), .val (.ref r)] [(.int sv)]))
  refine OGo.step (fun uK kK => XS.aloadN X1.here hx rfl (hb hby d11_4) rfl rfl kK) ?_
  show OGo p e below _ (T1.setTop (mkF m 5 #[.val (.ref a), .val (.ref r)] [(.ref r), (.int sv)]))
  obtain ⟨cq2, kq2, q2a, q2b, q2c⟩ := isOf hZ e1 Er
  obtain ⟨_, _, ⟨T2, Lq2, kq_2, nq_2⟩, -, X2, ⟨Lc2, hQ2, lq2, yq2, zq2⟩, st2⟩ := X1.virtualBack hx (y := (⟨"com/example/coxswain/coxswain/api/ApiStatus", "code", "()I"⟩ : MethodName)) (z := (⟨"com/example/coxswain/coxswain/api/ApiStatus", "code", "()I"⟩ : MethodName)) hown (mvT hZ (hw _ (List.mem_of_getElem? (i := 93) rfl))) (mvT hZ (hw _ (List.mem_of_getElem? (i := 94) rfl))) (notFace_of_selects (args := #[]) (mvT hZ (hw _ (List.mem_of_getElem? (i := 96) rfl)))) (mvT hZ (hw _ (List.mem_of_getElem? (i := 96) rfl))) (mvT hZ (hw _ (List.mem_of_getElem? (i := 95) rfl))) (by decide) (backOf (W := 1) (rmcd l Z a0 hw [] r cd h0 n0 Z0 Fc) hZ (hw _ (List.mem_of_getElem? (i := 97) rfl)) (hw _ (List.mem_of_getElem? (i := 86) rfl)) (by decide) (by decide)) q2a q2c (g := (mkF m 5 #[.val (.ref a), .val (.ref r)] [(.ref r), (.int sv)])) rfl (by rw [hml]; rfl) (Steps.refl _) (argsL := []) (rest := [(.int sv)]) (lenOf pdis_0 rfl) rfl (by show 2 * 0 + _ ≤ _; exact Nat.le_of_eq rfl) (hb hby d11_5) (fun _ _ => ⟨rfl, e1, (by decide : 0 + 0 ≤ _), (by decide : 0 + 0 ≤ _)⟩)
  dsimp only [Pt.U, Pt.locs, Pt.cells, Pt.slots] at X2 lq2 yq2 zq2 st2 hQ2
  subst lq2 yq2 zq2
  obtain ⟨rfl, Nq2, e2⟩ := hQ2
  have N2 := Fr.app N0 Nq2
  refine OGo.steps st2 ?_
  show OGo p e below _ (T2.setTop (mkF m 8 #[.val (.ref a), .val (.ref r)] [(.int cd), (.int sv)]))
  refine OGo.step (t' := T2.setTop (mkF m 16 #[.val (.ref a), .val (.ref r)] [(.int (if sv = cd then (1 : Int32) else (0 : Int32)))])) (fun uK kK => ?_) ?_
  · show Steps p.tables e below (T2.setTop (mkF m 8 #[.val (.ref a), .val (.ref r)] [(.int cd), (.int sv)])) _
    by_cases hm8_3 : sv = cd
    · try rw [if_pos hm8_3] at kK
      refine XS.icmpNo X2.here hx rfl (hb hby d11_8) rfl (teq hm8_3).2 ?_
      refine XS.iconst X2.here hx rfl (hb hby d11_11) ?_
      show Steps p.tables e below (T2.setTop (mkF m 12 #[.val (.ref a), .val (.ref r)] [(.int (1 : Int32))])) _
      refine XS.goto X2.here hx rfl (pc0 := 12) (pc' := 16) rfl (hb hby d11_12) (by decide) (by decide) ?_
      show Steps p.tables e below (T2.setTop (mkF m 16 #[.val (.ref a), .val (.ref r)] [(.int (1 : Int32))])) _
      exact kK
    · try rw [if_neg hm8_3] at kK
      refine XS.icmpYes X2.here hx rfl (pc0 := 8) (pc' := 15) rfl (hb hby d11_8) rfl (feq hm8_3).2 (by decide) (by decide) ?_
      refine XS.iconst X2.here hx rfl (hb hby d11_15) ?_
      show Steps p.tables e below (T2.setTop (mkF m 16 #[.val (.ref a), .val (.ref r)] [(.int (0 : Int32))])) _
      exact kK
  show OGo p e below _ (T2.setTop (mkF m 16 #[.val (.ref a), .val (.ref r)] [(.int (if sv = cd then (1 : Int32) else (0 : Int32)))]))
  exact OGo.retN X2 hx Bd.notSynchronized (t := .boolean) Bd.returns (by simp) (hb hby d11_16) (by decide) (by decide) (by show Qis Z a r sv cd h0 n0 _ T2.heap _; rw [e2]; exact ⟨rfl, N2, rfl⟩)
theorem d6_0 : decode jdk_78_method_2_code 0 = .ok (.aload_n 0, 1) := by decide +kernel
theorem d6_1 : decode jdk_78_method_2_code 1 = .ok (.invokespecial 1, 3) := by decide +kernel
theorem d6_4 : decode jdk_78_method_2_code 4 = .ok (.aload_n 0, 1) := by decide +kernel
theorem d6_5 : decode jdk_78_method_2_code 5 = .ok (.aload_n 0, 1) := by decide +kernel
theorem d6_6 : decode jdk_78_method_2_code 6 = .ok (.putfield 7, 3) := by decide +kernel
theorem d6_9 : decode jdk_78_method_2_code 9 = .ok (.aload_n 0, 1) := by decide +kernel
theorem d6_10 : decode jdk_78_method_2_code 10 = .ok (.getstatic 13, 3) := by decide +kernel
theorem d6_13 : decode jdk_78_method_2_code 13 = .ok (.putfield 17, 3) := by decide +kernel
theorem d6_16 : decode jdk_78_method_2_code 16 = .ok (.aload_n 0, 1) := by decide +kernel
theorem d6_17 : decode jdk_78_method_2_code 17 = .ok (.getstatic 20, 3) := by decide +kernel
theorem d6_20 : decode jdk_78_method_2_code 20 = .ok (.putfield 24, 3) := by decide +kernel
theorem d6_23 : decode jdk_78_method_2_code 23 = .ok (.aload_n 0, 1) := by decide +kernel
theorem d6_24 : decode jdk_78_method_2_code 24 = .ok (.invokevirtual 27, 3) := by decide +kernel
theorem d6_27 : decode jdk_78_method_2_code 27 = .ok (.pop, 1) := by decide +kernel
theorem d6_28 : decode jdk_78_method_2_code 28 = .ok (.aload_n 0, 1) := by decide +kernel
theorem d6_29 : decode jdk_78_method_2_code 29 = .ok (.aload_n 1, 1) := by decide +kernel
theorem d6_30 : decode jdk_78_method_2_code 30 = .ok (.putfield 31, 3) := by decide +kernel
theorem d6_33 : decode jdk_78_method_2_code 33 = .ok (.return_, 1) := by decide +kernel
theorem pntt : plainName "java/lang/Throwable" = true := by first | (simp [plainName, overriddenIn]; done) | decide +kernel
theorem eftt (m : MethodId) (x0 : Addr) (x1 : Addr) : entryFrame m #[(.ref x0), (.ref x1)] 2 = mkF m 0 #[.val (.ref x0), .val (.ref x1)] [] := by first | (simp [entryFrame, mkF, argsToLocals, Value.category]; done) | rfl
def Qtt (Z : State) (a : Addr) (sR : Addr) (h0 : Heap) (n0 : Nat) (v : Option Value) (h : Heap) (L : List Loc) : Prop := v = none ∧ Fr n0 L ∧ Keep h0 h [a] ∧ Kp Z h0 h a
set_option maxRecDepth 65536 in
set_option maxHeartbeats 40000000 in
theorem rmtt (l : Launch) (Z : State) (a0 : Array Value) (hw : ∀ d ∈ tables_1, d.before a0 Z = true) (ws : List Jvm.Cond) (a : Addr) (sR : Addr) (h0 : Heap) (n0 : Nat) (Z0 : n0 ≤ h0.size) (Fc_ : Fld Z h0 a "java/lang/Throwable" "cause" "Ljava/lang/Throwable;" .null) (Ft : Fld Z h0 a "java/lang/Throwable" "stackTrace" "[Ljava/lang/StackTraceElement;" .null) (Fp : Fld Z h0 a "java/lang/Throwable" "suppressedExceptions" "Ljava/util/List;" .null) (Fb : Fld Z h0 a "java/lang/Throwable" "backtrace" "Ljava/lang/Object;" .null) (Fd : Fld Z h0 a "java/lang/Throwable" "detailMessage" "Ljava/lang/String;" .null) (Ex : Exa Z h0 a "com/example/coxswain/coxswain/api/ControllerException") (Un : Unt h0 a) (Th : ThS Z h0) (rr : ∀ d ∈ twoRefs, d.before a0 Z = true) (hl : l.stackTraces = true) (ga : n0 ≤ a) :
    MetFree l (⟨"java/lang/Throwable", "<init>", "(Ljava/lang/String;)V"⟩ : MethodName) (head1 (Jvm.Cond.code (⟨"java/lang/Throwable", "<init>", "(Ljava/lang/String;)V"⟩ : MethodName) jdk_78_method_2_code 2 none :: ws) ({ frames := 3, cells := 1, slots := 2752, locals := 42 } : Room)) (fun aQ UQ => aQ = #[(.ref a), (.ref sR)] ∧ Z.Warmed39 UQ.vm ∧ UQ.heap = h0) (fun _ _ bl s _ => s.vm.MethodsKnown ∧ s.vm.FramesKnown bl) (fun _ U o U' => ∃ v L, o = .returned v ∧ Qtt Z a sR h0 n0 v U'.heap L ∧ FrameEnd U o U' L ({ frames := 3, cells := 1, slots := 2752, locals := 42 } : Room).cells ({ frames := 3, cells := 1, slots := 2752, locals := 42 } : Room).slots) := by
  refine MetFree.of_bodySF (plainFor_of_name pntt) hisR ?_
  intro p e s m args below meth c s₁ Bd hml0 hP hK
  obtain ⟨rfl, hZ, hh⟩ := hP
  have hx := Bd.exec
  have hby := Bd.bytes
  have hml : c.maxLocals = 2 := hml0
  have hown : s.vm.findClass "java/lang/Throwable" = some m.cls := findClass_of_methodNamed Bd.named
  have hnm := (name_of_methodNamed Bd.named Bd.method).1
  have X0 : Stand p l e ({ frames := 3, cells := 1, slots := 2752, locals := 42 } : Room) s m #[(.ref a), (.ref sR)] below meth c s₁ [] 0 0 := Stand.of_body Bd
  have e0 : s₁.heap = h0 := by rw [← hh, Bd.state]; rfl
  have N0 := Fr.nil n0
  show OGo p e below (OPost s (Qtt Z a sR h0 n0) ({ frames := 3, cells := 1, slots := 2752, locals := 42 } : Room).cells ({ frames := 3, cells := 1, slots := 2752, locals := 42 } : Room).slots) (s₁.setTop (entryFrame m #[(.ref a), (.ref sR)] 2))
  refine OGo.step (fun uK kK => castTop (eftt m a sR) kK) ?_
  obtain ⟨u0, SU⟩ := own_sta (hw _ (List.mem_of_getElem? (i := 37) rfl)) (hw _ (List.mem_of_getElem? (i := 70) rfl)) (rr _ (List.mem_cons_self ..)) Th
  obtain ⟨sen, SS⟩ := own_sta (hw _ (List.mem_of_getElem? (i := 37) rfl)) (hw _ (List.mem_of_getElem? (i := 71) rfl)) (rr _ (List.mem_of_getElem? (i := 1) rfl)) Th
  show OGo p e below _ (s₁.setTop (mkF m 0 #[.val (.ref a), .val (.ref sR)] []))
  refine OGo.step (fun uK kK => XS.aloadN X0.here hx rfl (hb hby d6_0) rfl rfl kK) ?_
  show OGo p e below _ (s₁.setTop (mkF m 1 #[.val (.ref a), .val (.ref sR)] [(.ref a)]))
  obtain ⟨T1, X1, e1, st1⟩ := initO X0 hx hZ hown (hw _ (List.mem_of_getElem? (i := 39) rfl)) (hw _ (List.mem_of_getElem? (i := 40) rfl)) (hw _ (List.mem_of_getElem? (i := 41) rfl)) e0 (g := (mkF m 1 #[.val (.ref a), .val (.ref sR)] [(.ref a)])) rfl (by rw [hml]; rfl) rfl (hb hby d6_1) (by decide) (W := 0) (by show 2 * 0 + _ ≤ _; exact Nat.le_of_eq rfl) (by decide)
  refine OGo.step (fun uK kK => st1 uK kK) ?_
  show OGo p e below _ (T1.setTop (mkF m 4 #[.val (.ref a), .val (.ref sR)] []))
  refine OGo.step (fun uK kK => XS.aloadN X1.here hx rfl (hb hby d6_4) rfl rfl kK) ?_
  show OGo p e below _ (T1.setTop (mkF m 5 #[.val (.ref a), .val (.ref sR)] [(.ref a)]))
  refine OGo.step (fun uK kK => XS.aloadN X1.here hx rfl (hb hby d6_5) rfl rfl kK) ?_
  show OGo p e below _ (T1.setTop (mkF m 6 #[.val (.ref a), .val (.ref sR)] [(.ref a), (.ref a)]))
  obtain ⟨T2, h2, X2, e2, W2, st2⟩ := putF X1 hx hZ hown (host := "") (Or.inl (hw _ (List.mem_of_getElem? (i := 42) rfl))) Via.refl e1 Fc_ Ex (Or.inl (hw _ (List.mem_of_getElem? (i := 43) rfl))) (hw _ (List.mem_of_getElem? (i := 6) rfl)) (ty := (.object "java/lang/Throwable")) (by decide) rfl rfl (g := (mkF m 6 #[.val (.ref a), .val (.ref sR)] [(.ref a), (.ref a)])) rfl rfl (hb hby d6_6)
  have Fw2 := Fc_.same W2
  have Ft_4 := (Ft.other W2 (Or.inr (slot_ne (Or.inl (hw _ (List.mem_of_getElem? (i := 46) rfl))) (Or.inl (hw _ (List.mem_of_getElem? (i := 43) rfl))) (by decide) (t := (.array (.object "java/lang/StackTraceElement"))) (t' := (.object "java/lang/Throwable")) (by decide) (by decide))))
  have Fp_5 := (Fp.other W2 (Or.inr (slot_ne (Or.inl (hw _ (List.mem_of_getElem? (i := 49) rfl))) (Or.inl (hw _ (List.mem_of_getElem? (i := 43) rfl))) (by decide) (t := (.object "java/util/List")) (t' := (.object "java/lang/Throwable")) (by decide) (by decide))))
  have Fb_6 := (Fb.other W2 (Or.inr (slot_ne (Or.inl (hw _ (List.mem_of_getElem? (i := 74) rfl))) (Or.inl (hw _ (List.mem_of_getElem? (i := 43) rfl))) (by decide) (t := (.object "java/lang/Object")) (t' := (.object "java/lang/Throwable")) (by decide) (by decide))))
  have Fd_7 := (Fd.other W2 (Or.inr (slot_ne (Or.inl (hw _ (List.mem_of_getElem? (i := 73) rfl))) (Or.inl (hw _ (List.mem_of_getElem? (i := 43) rfl))) (by decide) (t := (.object "java/lang/String")) (t' := (.object "java/lang/Throwable")) (by decide) (by decide))))
  have Ex_8 := (Ex.wr W2)
  have Un_9 := (Un.wr W2)
  have SU_10 := (SU.wr W2)
  have SS_11 := (SS.wr W2)
  have ZS2 : n0 ≤ h2.size := Nat.le_trans Z0 (Keep.of_wr W2).1
  have KC2 : Keep h0 h2 [a] := (Keep.refl h0 [a]).wr W2 (Or.inl (List.mem_of_getElem? (i := 0) rfl))
  have N2 := Fr.snoc X2 N0 ga
  have S2 := (Sx.nil (Z := Z) (a := a)).snoc ("cause", "Ljava/lang/Throwable;") (by decide)
  refine OGo.step (fun uK kK => st2 uK kK) ?_
  show OGo p e below _ (T2.setTop (mkF m 9 #[.val (.ref a), .val (.ref sR)] []))
  refine OGo.step (fun uK kK => XS.aloadN X2.here hx rfl (hb hby d6_9) rfl rfl kK) ?_
  show OGo p e below _ (T2.setTop (mkF m 10 #[.val (.ref a), .val (.ref sR)] [(.ref a)]))
  obtain ⟨T12, X12, e12, st12⟩ := getS2 X2 hx hZ hown (host := "") (Or.inl (hw _ (List.mem_of_getElem? (i := 44) rfl))) Via.refl e2 SU_10 (g := (mkF m 10 #[.val (.ref a), .val (.ref sR)] [(.ref a)])) rfl (hb hby d6_10)
  refine OGo.step (fun uK kK => st12 uK kK) ?_
  show OGo p e below _ (T12.setTop (mkF m 13 #[.val (.ref a), .val (.ref sR)] [u0.v, (.ref a)]))
  obtain ⟨T13, h13, X13, e13, W13, st13⟩ := putF X12 hx hZ hown (host := "") (Or.inl (hw _ (List.mem_of_getElem? (i := 45) rfl))) Via.refl e12 Ft_4 Ex_8 (Or.inl (hw _ (List.mem_of_getElem? (i := 46) rfl))) (hw _ (List.mem_of_getElem? (i := 6) rfl)) (ty := (.array (.object "java/lang/StackTraceElement"))) (by decide) (narrow_refV _ u0) (fits_refV_array _ u0) (g := (mkF m 13 #[.val (.ref a), .val (.ref sR)] [u0.v, (.ref a)])) rfl rfl (hb hby d6_13)
  have Fw13 := Ft_4.same W13
  have Fp_15 := (Fp_5.other W13 (Or.inr (slot_ne (Or.inl (hw _ (List.mem_of_getElem? (i := 49) rfl))) (Or.inl (hw _ (List.mem_of_getElem? (i := 46) rfl))) (by decide) (t := (.object "java/util/List")) (t' := (.array (.object "java/lang/StackTraceElement"))) (by decide) (by decide))))
  have Fb_16 := (Fb_6.other W13 (Or.inr (slot_ne (Or.inl (hw _ (List.mem_of_getElem? (i := 74) rfl))) (Or.inl (hw _ (List.mem_of_getElem? (i := 46) rfl))) (by decide) (t := (.object "java/lang/Object")) (t' := (.array (.object "java/lang/StackTraceElement"))) (by decide) (by decide))))
  have Fd_17 := (Fd_7.other W13 (Or.inr (slot_ne (Or.inl (hw _ (List.mem_of_getElem? (i := 73) rfl))) (Or.inl (hw _ (List.mem_of_getElem? (i := 46) rfl))) (by decide) (t := (.object "java/lang/String")) (t' := (.array (.object "java/lang/StackTraceElement"))) (by decide) (by decide))))
  have Ex_18 := (Ex_8.wr W13)
  have Un_19 := (Un_9.wr W13)
  have SU_20 := (SU_10.wr W13)
  have SS_21 := (SS_11.wr W13)
  have Fw2_22 := (Fw2.other W13 (Or.inr (slot_ne (Or.inl (hw _ (List.mem_of_getElem? (i := 43) rfl))) (Or.inl (hw _ (List.mem_of_getElem? (i := 46) rfl))) (by decide) (t := (.object "java/lang/Throwable")) (t' := (.array (.object "java/lang/StackTraceElement"))) (by decide) (by decide))))
  have ZS13 : n0 ≤ h13.size := Nat.le_trans ZS2 (Keep.of_wr W13).1
  have KC13 : Keep h0 h13 [a] := KC2.wr W13 (Or.inl (List.mem_of_getElem? (i := 0) rfl))
  have N13 := Fr.snoc X13 N2 ga
  have S13 := S2.snoc ("stackTrace", "[Ljava/lang/StackTraceElement;") (by decide)
  refine OGo.step (fun uK kK => st13 uK kK) ?_
  show OGo p e below _ (T13.setTop (mkF m 16 #[.val (.ref a), .val (.ref sR)] []))
  refine OGo.step (fun uK kK => XS.aloadN X13.here hx rfl (hb hby d6_16) rfl rfl kK) ?_
  show OGo p e below _ (T13.setTop (mkF m 17 #[.val (.ref a), .val (.ref sR)] [(.ref a)]))
  obtain ⟨T23, X23, e23, st23⟩ := getS2 X13 hx hZ hown (host := "") (Or.inl (hw _ (List.mem_of_getElem? (i := 47) rfl))) Via.refl e13 SS_21 (g := (mkF m 17 #[.val (.ref a), .val (.ref sR)] [(.ref a)])) rfl (hb hby d6_17)
  refine OGo.step (fun uK kK => st23 uK kK) ?_
  show OGo p e below _ (T23.setTop (mkF m 20 #[.val (.ref a), .val (.ref sR)] [sen.v, (.ref a)]))
  obtain ⟨T24, h24, X24, e24, W24, st24⟩ := putF X23 hx hZ hown (host := "") (Or.inl (hw _ (List.mem_of_getElem? (i := 48) rfl))) Via.refl e23 Fp_15 Ex_18 (Or.inl (hw _ (List.mem_of_getElem? (i := 49) rfl))) (hw _ (List.mem_of_getElem? (i := 6) rfl)) (ty := (.object "java/util/List")) (by decide) (narrow_refV _ sen) (fits_refV_object _ sen) (g := (mkF m 20 #[.val (.ref a), .val (.ref sR)] [sen.v, (.ref a)])) rfl rfl (hb hby d6_20)
  have Fw24 := Fp_15.same W24
  have Fb_26 := (Fb_16.other W24 (Or.inr (slot_ne (Or.inl (hw _ (List.mem_of_getElem? (i := 74) rfl))) (Or.inl (hw _ (List.mem_of_getElem? (i := 49) rfl))) (by decide) (t := (.object "java/lang/Object")) (t' := (.object "java/util/List")) (by decide) (by decide))))
  have Fd_27 := (Fd_17.other W24 (Or.inr (slot_ne (Or.inl (hw _ (List.mem_of_getElem? (i := 73) rfl))) (Or.inl (hw _ (List.mem_of_getElem? (i := 49) rfl))) (by decide) (t := (.object "java/lang/String")) (t' := (.object "java/util/List")) (by decide) (by decide))))
  have Ex_28 := (Ex_18.wr W24)
  have Un_29 := (Un_19.wr W24)
  have SU_30 := (SU_20.wr W24)
  have SS_31 := (SS_21.wr W24)
  have Fw2_32 := (Fw2_22.other W24 (Or.inr (slot_ne (Or.inl (hw _ (List.mem_of_getElem? (i := 43) rfl))) (Or.inl (hw _ (List.mem_of_getElem? (i := 49) rfl))) (by decide) (t := (.object "java/lang/Throwable")) (t' := (.object "java/util/List")) (by decide) (by decide))))
  have Fw13_33 := (Fw13.other W24 (Or.inr (slot_ne (Or.inl (hw _ (List.mem_of_getElem? (i := 46) rfl))) (Or.inl (hw _ (List.mem_of_getElem? (i := 49) rfl))) (by decide) (t := (.array (.object "java/lang/StackTraceElement"))) (t' := (.object "java/util/List")) (by decide) (by decide))))
  have ZS24 : n0 ≤ h24.size := Nat.le_trans ZS13 (Keep.of_wr W24).1
  have KC24 : Keep h0 h24 [a] := KC13.wr W24 (Or.inl (List.mem_of_getElem? (i := 0) rfl))
  have N24 := Fr.snoc X24 N13 ga
  have S24 := S13.snoc ("suppressedExceptions", "Ljava/util/List;") (by decide)
  refine OGo.step (fun uK kK => st24 uK kK) ?_
  show OGo p e below _ (T24.setTop (mkF m 23 #[.val (.ref a), .val (.ref sR)] []))
  refine OGo.step (fun uK kK => XS.aloadN X24.here hx rfl (hb hby d6_23) rfl rfl kK) ?_
  show OGo p e below _ (T24.setTop (mkF m 24 #[.val (.ref a), .val (.ref sR)] [(.ref a)]))
  obtain ⟨T34, Lf34, X34, hLf34, Ex34, kn34, st34⟩ := own_fill X24 hx hl hZ hw hown (by rw [hh]; exact Th) hK.1 hK.2 e24 (hw _ (List.mem_of_getElem? (i := 6) rfl)) Ex_28 Un_29 Fw13_33 Fb_26 SU_30 (g := (mkF m 24 #[.val (.ref a), .val (.ref sR)] [(.ref a)])) rfl (by rw [hml]; rfl) rfl (hb hby d6_24) (by decide) (by show 2 * 0 + 42 ≤ 42; decide) (by decide) (by decide)
  have S34 := S24.app hLf34
  have Kp34 := own_kp X34 hZ hw hh S34
  have KC34 := keep_of_kp Kp34
  have ZS34 : n0 ≤ T34.heap.size := Nat.le_trans Z0 KC34.1
  have N34 := Fr.app N24 (fun y hy => by obtain ⟨_, -, rfl⟩ := hLf34 y hy; exact ga)
  obtain ⟨vd, Fd34⟩ := fld_laid Ex34 kn34 (hw _ (List.mem_of_getElem? (i := 6) rfl)) (Or.inl (hw _ (List.mem_of_getElem? (i := 73) rfl)))
  refine OGo.steps st34 ?_
  show OGo p e below _ (T34.setTop (mkF m 27 #[.val (.ref a), .val (.ref sR)] [(.ref a)]))
  refine OGo.step (fun uK kK => XS.pop X34.here hx rfl (hb hby d6_27) rfl rfl kK) ?_
  show OGo p e below _ (T34.setTop (mkF m 28 #[.val (.ref a), .val (.ref sR)] []))
  refine OGo.step (fun uK kK => XS.aloadN X34.here hx rfl (hb hby d6_28) rfl rfl kK) ?_
  show OGo p e below _ (T34.setTop (mkF m 29 #[.val (.ref a), .val (.ref sR)] [(.ref a)]))
  refine OGo.step (fun uK kK => XS.aloadN X34.here hx rfl (hb hby d6_29) rfl rfl kK) ?_
  show OGo p e below _ (T34.setTop (mkF m 30 #[.val (.ref a), .val (.ref sR)] [(.ref sR), (.ref a)]))
  obtain ⟨T35, h35, X35, e35, W35, st35⟩ := putF X34 hx hZ hown (host := "") (Or.inl (hw _ (List.mem_of_getElem? (i := 77) rfl))) Via.refl rfl Fd34 Ex34 (Or.inl (hw _ (List.mem_of_getElem? (i := 73) rfl))) (hw _ (List.mem_of_getElem? (i := 6) rfl)) (ty := (.object "java/lang/String")) (by decide) rfl rfl (g := (mkF m 30 #[.val (.ref a), .val (.ref sR)] [(.ref sR), (.ref a)])) rfl rfl (hb hby d6_30)
  have Fw35 := Fd34.same W35
  have Ex34_36 := (Ex34.wr W35)
  have ZS35 : n0 ≤ h35.size := Nat.le_trans ZS34 (Keep.of_wr W35).1
  have KC35 : Keep h0 h35 [a] := KC34.wr W35 (Or.inl (List.mem_of_getElem? (i := 0) rfl))
  have N35 := Fr.snoc X35 N34 ga
  have S35 := S34.snoc ("detailMessage", "Ljava/lang/String;") (by decide)
  have Kz := own_kp X35 hZ hw hh S35
  rw [e35] at Kz
  refine OGo.step (fun uK kK => st35 uK kK) ?_
  show OGo p e below _ (T35.setTop (mkF m 33 #[.val (.ref a), .val (.ref sR)] []))
  exact OGo.retV X35 hx Bd.notSynchronized Bd.returns (hb hby d6_33) (by decide) (by decide) (by show Qtt Z a sR h0 n0 _ T35.heap _; rw [e35]; exact ⟨rfl, N35, KC35, Kz⟩)
theorem d5_0 : decode jdk_59_method_2_code 0 = .ok (.aload_n 0, 1) := by decide +kernel
theorem d5_1 : decode jdk_59_method_2_code 1 = .ok (.aload_n 1, 1) := by decide +kernel
theorem d5_2 : decode jdk_59_method_2_code 2 = .ok (.invokespecial 7, 3) := by decide +kernel
theorem d5_5 : decode jdk_59_method_2_code 5 = .ok (.return_, 1) := by decide +kernel
theorem pnxx : plainName "java/lang/Exception" = true := by first | (simp [plainName, overriddenIn]; done) | decide +kernel
theorem pdxx_0 : parseMethodDescriptor "(Ljava/lang/String;)V" = some ⟨[(.object "java/lang/String")], none⟩ := by decide +kernel
theorem efxx (m : MethodId) (x0 : Addr) (x1 : Addr) : entryFrame m #[(.ref x0), (.ref x1)] 2 = mkF m 0 #[.val (.ref x0), .val (.ref x1)] [] := by first | (simp [entryFrame, mkF, argsToLocals, Value.category]; done) | rfl
def Qxx (Z : State) (a : Addr) (sR : Addr) (h0 : Heap) (n0 : Nat) (v : Option Value) (h : Heap) (L : List Loc) : Prop := v = none ∧ Fr n0 L ∧ Keep h0 h [a] ∧ Kp Z h0 h a
set_option maxRecDepth 65536 in
set_option maxHeartbeats 40000000 in
theorem rmxx (l : Launch) (Z : State) (a0 : Array Value) (hw : ∀ d ∈ tables_1, d.before a0 Z = true) (ws : List Jvm.Cond) (a : Addr) (sR : Addr) (h0 : Heap) (n0 : Nat) (Z0 : n0 ≤ h0.size) (Fc_ : Fld Z h0 a "java/lang/Throwable" "cause" "Ljava/lang/Throwable;" .null) (Ft : Fld Z h0 a "java/lang/Throwable" "stackTrace" "[Ljava/lang/StackTraceElement;" .null) (Fp : Fld Z h0 a "java/lang/Throwable" "suppressedExceptions" "Ljava/util/List;" .null) (Fb : Fld Z h0 a "java/lang/Throwable" "backtrace" "Ljava/lang/Object;" .null) (Fd : Fld Z h0 a "java/lang/Throwable" "detailMessage" "Ljava/lang/String;" .null) (Ex : Exa Z h0 a "com/example/coxswain/coxswain/api/ControllerException") (Un : Unt h0 a) (Th : ThS Z h0) (rr : ∀ d ∈ twoRefs, d.before a0 Z = true) (hl : l.stackTraces = true) (ga : n0 ≤ a) :
    MetFree l (⟨"java/lang/Exception", "<init>", "(Ljava/lang/String;)V"⟩ : MethodName) (head1 (Jvm.Cond.code (⟨"java/lang/Exception", "<init>", "(Ljava/lang/String;)V"⟩ : MethodName) jdk_59_method_2_code 2 none :: ws) ({ frames := 4, cells := 1, slots := 2752, locals := 55 } : Room)) (fun aQ UQ => aQ = #[(.ref a), (.ref sR)] ∧ Z.Warmed39 UQ.vm ∧ UQ.heap = h0) (fun _ _ bl s _ => s.vm.MethodsKnown ∧ s.vm.FramesKnown bl) (fun _ U o U' => ∃ v L, o = .returned v ∧ Qxx Z a sR h0 n0 v U'.heap L ∧ FrameEnd U o U' L ({ frames := 4, cells := 1, slots := 2752, locals := 55 } : Room).cells ({ frames := 4, cells := 1, slots := 2752, locals := 55 } : Room).slots) := by
  refine MetFree.of_bodySF (plainFor_of_name pnxx) hisR ?_
  intro p e s m args below meth c s₁ Bd hml0 hP hK
  obtain ⟨rfl, hZ, hh⟩ := hP
  have hx := Bd.exec
  have hby := Bd.bytes
  have hml : c.maxLocals = 2 := hml0
  have hown : s.vm.findClass "java/lang/Exception" = some m.cls := findClass_of_methodNamed Bd.named
  have hnm := (name_of_methodNamed Bd.named Bd.method).1
  have X0 : Stand p l e ({ frames := 4, cells := 1, slots := 2752, locals := 55 } : Room) s m #[(.ref a), (.ref sR)] below meth c s₁ [] 0 0 := Stand.of_body Bd
  have e0 : s₁.heap = h0 := by rw [← hh, Bd.state]; rfl
  have N0 := Fr.nil n0
  show OGo p e below (OPost s (Qxx Z a sR h0 n0) ({ frames := 4, cells := 1, slots := 2752, locals := 55 } : Room).cells ({ frames := 4, cells := 1, slots := 2752, locals := 55 } : Room).slots) (s₁.setTop (entryFrame m #[(.ref a), (.ref sR)] 2))
  refine OGo.step (fun uK kK => castTop (efxx m a sR) kK) ?_
  show OGo p e below _ (s₁.setTop (mkF m 0 #[.val (.ref a), .val (.ref sR)] []))
  refine OGo.step (fun uK kK => XS.aloadN X0.here hx rfl (hb hby d5_0) rfl rfl kK) ?_
  show OGo p e below _ (s₁.setTop (mkF m 1 #[.val (.ref a), .val (.ref sR)] [(.ref a)]))
  refine OGo.step (fun uK kK => XS.aloadN X0.here hx rfl (hb hby d5_1) rfl rfl kK) ?_
  show OGo p e below _ (s₁.setTop (mkF m 2 #[.val (.ref a), .val (.ref sR)] [(.ref sR), (.ref a)]))
  obtain ⟨_, _, ⟨T1, Lq1, kq_1, nq_1⟩, -, X1, ⟨Lc1, hQ1, lq1, yq1, zq1⟩, st1⟩ := X0.specialBack hx (y := (⟨"java/lang/Throwable", "<init>", "(Ljava/lang/String;)V"⟩ : MethodName)) rfl hown (mvT hZ (hw _ (List.mem_of_getElem? (i := 33) rfl))) (mvT hZ (hw _ (List.mem_of_getElem? (i := 34) rfl))) (mvT hZ (hw _ (List.mem_of_getElem? (i := 38) rfl))) (by decide) (backOfKL (W := 0) (rmtt l Z a0 hw [] a sR h0 n0 Z0 Fc_ Ft Fp Fb Fd Ex Un Th rr hl ga) hZ (hw _ (List.mem_of_getElem? (i := 38) rfl)) (hw _ (List.mem_of_getElem? (i := 37) rfl)) (by decide) (by decide) hK.1 hK.2) (g := (mkF m 2 #[.val (.ref a), .val (.ref sR)] [(.ref sR), (.ref a)])) rfl (by rw [hml]; rfl) (Steps.refl _) (a := a) (argsL := [(.ref sR)]) (rest := []) (lenOf pdxx_0 rfl) rfl (by show 2 * 0 + _ ≤ _; exact Nat.le_of_eq rfl) (hb hby d5_2) (fun _ _ => ⟨rfl, e0, (by decide : 0 + 1 ≤ _), (by decide : 0 + 2752 ≤ _)⟩)
  dsimp only [Pt.U, Pt.locs, Pt.cells, Pt.slots] at X1 lq1 yq1 zq1 st1 hQ1
  subst lq1 yq1 zq1
  obtain ⟨rfl, Nq1, K1, Kp1⟩ := hQ1
  have ZS1 : n0 ≤ T1.heap.size := Nat.le_trans Z0 K1.1
  have KC1 : Keep h0 T1.heap [a] := (Keep.refl h0 [a]).trans K1 (allS (Or.inl (List.mem_of_getElem? (i := 0) rfl)) all0)
  have N1 := Fr.app N0 Nq1
  refine OGo.steps st1 ?_
  show OGo p e below _ (T1.setTop (mkF m 5 #[.val (.ref a), .val (.ref sR)] []))
  exact OGo.retV X1 hx Bd.notSynchronized Bd.returns (hb hby d5_5) (by decide) (by decide) (by exact ⟨rfl, N1, KC1, Kp1⟩)
theorem d4_0 : decode jdk_131_method_2_code 0 = .ok (.aload_n 0, 1) := by decide +kernel
theorem d4_1 : decode jdk_131_method_2_code 1 = .ok (.aload_n 1, 1) := by decide +kernel
theorem d4_2 : decode jdk_131_method_2_code 2 = .ok (.invokespecial 7, 3) := by decide +kernel
theorem d4_5 : decode jdk_131_method_2_code 5 = .ok (.return_, 1) := by decide +kernel
theorem pnio : plainName "java/io/IOException" = true := by first | (simp [plainName, overriddenIn]; done) | decide +kernel
theorem pdio_0 : parseMethodDescriptor "(Ljava/lang/String;)V" = some ⟨[(.object "java/lang/String")], none⟩ := by decide +kernel
theorem efio (m : MethodId) (x0 : Addr) (x1 : Addr) : entryFrame m #[(.ref x0), (.ref x1)] 2 = mkF m 0 #[.val (.ref x0), .val (.ref x1)] [] := by first | (simp [entryFrame, mkF, argsToLocals, Value.category]; done) | rfl
def Qio (Z : State) (a : Addr) (sR : Addr) (h0 : Heap) (n0 : Nat) (v : Option Value) (h : Heap) (L : List Loc) : Prop := v = none ∧ Fr n0 L ∧ Keep h0 h [a] ∧ Kp Z h0 h a
set_option maxRecDepth 65536 in
set_option maxHeartbeats 40000000 in
theorem rmio (l : Launch) (Z : State) (a0 : Array Value) (hw : ∀ d ∈ tables_1, d.before a0 Z = true) (ws : List Jvm.Cond) (a : Addr) (sR : Addr) (h0 : Heap) (n0 : Nat) (Z0 : n0 ≤ h0.size) (Fc_ : Fld Z h0 a "java/lang/Throwable" "cause" "Ljava/lang/Throwable;" .null) (Ft : Fld Z h0 a "java/lang/Throwable" "stackTrace" "[Ljava/lang/StackTraceElement;" .null) (Fp : Fld Z h0 a "java/lang/Throwable" "suppressedExceptions" "Ljava/util/List;" .null) (Fb : Fld Z h0 a "java/lang/Throwable" "backtrace" "Ljava/lang/Object;" .null) (Fd : Fld Z h0 a "java/lang/Throwable" "detailMessage" "Ljava/lang/String;" .null) (Ex : Exa Z h0 a "com/example/coxswain/coxswain/api/ControllerException") (Un : Unt h0 a) (Th : ThS Z h0) (rr : ∀ d ∈ twoRefs, d.before a0 Z = true) (hl : l.stackTraces = true) (ga : n0 ≤ a) :
    MetFree l (⟨"java/io/IOException", "<init>", "(Ljava/lang/String;)V"⟩ : MethodName) (head1 (Jvm.Cond.code (⟨"java/io/IOException", "<init>", "(Ljava/lang/String;)V"⟩ : MethodName) jdk_131_method_2_code 2 none :: ws) ({ frames := 5, cells := 1, slots := 2752, locals := 68 } : Room)) (fun aQ UQ => aQ = #[(.ref a), (.ref sR)] ∧ Z.Warmed39 UQ.vm ∧ UQ.heap = h0) (fun _ _ bl s _ => s.vm.MethodsKnown ∧ s.vm.FramesKnown bl) (fun _ U o U' => ∃ v L, o = .returned v ∧ Qio Z a sR h0 n0 v U'.heap L ∧ FrameEnd U o U' L ({ frames := 5, cells := 1, slots := 2752, locals := 68 } : Room).cells ({ frames := 5, cells := 1, slots := 2752, locals := 68 } : Room).slots) := by
  refine MetFree.of_bodySF (plainFor_of_name pnio) hisR ?_
  intro p e s m args below meth c s₁ Bd hml0 hP hK
  obtain ⟨rfl, hZ, hh⟩ := hP
  have hx := Bd.exec
  have hby := Bd.bytes
  have hml : c.maxLocals = 2 := hml0
  have hown : s.vm.findClass "java/io/IOException" = some m.cls := findClass_of_methodNamed Bd.named
  have hnm := (name_of_methodNamed Bd.named Bd.method).1
  have X0 : Stand p l e ({ frames := 5, cells := 1, slots := 2752, locals := 68 } : Room) s m #[(.ref a), (.ref sR)] below meth c s₁ [] 0 0 := Stand.of_body Bd
  have e0 : s₁.heap = h0 := by rw [← hh, Bd.state]; rfl
  have N0 := Fr.nil n0
  show OGo p e below (OPost s (Qio Z a sR h0 n0) ({ frames := 5, cells := 1, slots := 2752, locals := 68 } : Room).cells ({ frames := 5, cells := 1, slots := 2752, locals := 68 } : Room).slots) (s₁.setTop (entryFrame m #[(.ref a), (.ref sR)] 2))
  refine OGo.step (fun uK kK => castTop (efio m a sR) kK) ?_
  show OGo p e below _ (s₁.setTop (mkF m 0 #[.val (.ref a), .val (.ref sR)] []))
  refine OGo.step (fun uK kK => XS.aloadN X0.here hx rfl (hb hby d4_0) rfl rfl kK) ?_
  show OGo p e below _ (s₁.setTop (mkF m 1 #[.val (.ref a), .val (.ref sR)] [(.ref a)]))
  refine OGo.step (fun uK kK => XS.aloadN X0.here hx rfl (hb hby d4_1) rfl rfl kK) ?_
  show OGo p e below _ (s₁.setTop (mkF m 2 #[.val (.ref a), .val (.ref sR)] [(.ref sR), (.ref a)]))
  obtain ⟨_, _, ⟨T1, Lq1, kq_1, nq_1⟩, -, X1, ⟨Lc1, hQ1, lq1, yq1, zq1⟩, st1⟩ := X0.specialBack hx (y := (⟨"java/lang/Exception", "<init>", "(Ljava/lang/String;)V"⟩ : MethodName)) rfl hown (mvT hZ (hw _ (List.mem_of_getElem? (i := 27) rfl))) (mvT hZ (hw _ (List.mem_of_getElem? (i := 28) rfl))) (mvT hZ (hw _ (List.mem_of_getElem? (i := 32) rfl))) (by decide) (backOfKL (W := 0) (rmxx l Z a0 hw [] a sR h0 n0 Z0 Fc_ Ft Fp Fb Fd Ex Un Th rr hl ga) hZ (hw _ (List.mem_of_getElem? (i := 32) rfl)) (hw _ (List.mem_of_getElem? (i := 31) rfl)) (by decide) (by decide) hK.1 hK.2) (g := (mkF m 2 #[.val (.ref a), .val (.ref sR)] [(.ref sR), (.ref a)])) rfl (by rw [hml]; rfl) (Steps.refl _) (a := a) (argsL := [(.ref sR)]) (rest := []) (lenOf pdio_0 rfl) rfl (by show 2 * 0 + _ ≤ _; exact Nat.le_of_eq rfl) (hb hby d4_2) (fun _ _ => ⟨rfl, e0, (by decide : 0 + 1 ≤ _), (by decide : 0 + 2752 ≤ _)⟩)
  dsimp only [Pt.U, Pt.locs, Pt.cells, Pt.slots] at X1 lq1 yq1 zq1 st1 hQ1
  subst lq1 yq1 zq1
  obtain ⟨rfl, Nq1, K1, Kp1⟩ := hQ1
  have ZS1 : n0 ≤ T1.heap.size := Nat.le_trans Z0 K1.1
  have KC1 : Keep h0 T1.heap [a] := (Keep.refl h0 [a]).trans K1 (allS (Or.inl (List.mem_of_getElem? (i := 0) rfl)) all0)
  have N1 := Fr.app N0 Nq1
  refine OGo.steps st1 ?_
  show OGo p e below _ (T1.setTop (mkF m 5 #[.val (.ref a), .val (.ref sR)] []))
  exact OGo.retV X1 hx Bd.notSynchronized Bd.returns (hb hby d4_5) (by decide) (by decide) (by exact ⟨rfl, N1, KC1, Kp1⟩)
theorem d3_0 : decode prog_5_method_4_code 0 = .ok (.aload_n 0, 1) := by decide +kernel
theorem d3_1 : decode prog_5_method_4_code 1 = .ok (.aload_n 2, 1) := by decide +kernel
theorem d3_2 : decode prog_5_method_4_code 2 = .ok (.invokespecial 13, 3) := by decide +kernel
theorem d3_5 : decode prog_5_method_4_code 5 = .ok (.aload_n 0, 1) := by decide +kernel
theorem d3_6 : decode prog_5_method_4_code 6 = .ok (.iload_n 1, 1) := by decide +kernel
theorem d3_7 : decode prog_5_method_4_code 7 = .ok (.putfield 18, 3) := by decide +kernel
theorem d3_10 : decode prog_5_method_4_code 10 = .ok (.aload_n 0, 1) := by decide +kernel
theorem d3_11 : decode prog_5_method_4_code 11 = .ok (.aload_n 3, 1) := by decide +kernel
theorem d3_12 : decode prog_5_method_4_code 12 = .ok (.putfield 22, 3) := by decide +kernel
theorem d3_15 : decode prog_5_method_4_code 15 = .ok (.return_, 1) := by decide +kernel
theorem pnc4 : plainName "com/example/coxswain/coxswain/api/ControllerException" = true := by first | (simp [plainName, overriddenIn]; done) | decide +kernel
theorem pdc4_0 : parseMethodDescriptor "(Ljava/lang/String;)V" = some ⟨[(.object "java/lang/String")], none⟩ := by decide +kernel
theorem efc4 (m : MethodId) (x0 : Addr) (x1 : Int32) (x2 : Addr) : entryFrame m #[(.ref x0), (.int x1), (.ref x2), .null] 4 = mkF m 0 #[.val (.ref x0), .val (.int x1), .val (.ref x2), .val .null] [] := by first | (simp [entryFrame, mkF, argsToLocals, Value.category]; done) | rfl
def Qc4 (Z : State) (a : Addr) (p1 : Int32) (sR : Addr) (h0 : Heap) (n0 : Nat) (v : Option Value) (h : Heap) (L : List Loc) : Prop := v = none ∧ Fr n0 L ∧ Keep h0 h [a] ∧ Fld Z h a "com/example/coxswain/coxswain/api/ControllerException" "status" "I" (.int p1)
set_option maxRecDepth 65536 in
set_option maxHeartbeats 40000000 in
theorem rmc4 (l : Launch) (Z : State) (a0 : Array Value) (hw : ∀ d ∈ tables_1, d.before a0 Z = true) (ws : List Jvm.Cond) (a : Addr) (p1 : Int32) (sR : Addr) (h0 : Heap) (n0 : Nat) (Z0 : n0 ≤ h0.size) (Fs : Fld Z h0 a "com/example/coxswain/coxswain/api/ControllerException" "status" "I" (.int (0 : Int32))) (Fr_ : Fld Z h0 a "com/example/coxswain/coxswain/api/ControllerException" "retryAfter" "Ljava/time/Duration;" .null) (Fc_ : Fld Z h0 a "java/lang/Throwable" "cause" "Ljava/lang/Throwable;" .null) (Ft : Fld Z h0 a "java/lang/Throwable" "stackTrace" "[Ljava/lang/StackTraceElement;" .null) (Fp : Fld Z h0 a "java/lang/Throwable" "suppressedExceptions" "Ljava/util/List;" .null) (Fb : Fld Z h0 a "java/lang/Throwable" "backtrace" "Ljava/lang/Object;" .null) (Fd : Fld Z h0 a "java/lang/Throwable" "detailMessage" "Ljava/lang/String;" .null) (Ex : Exa Z h0 a "com/example/coxswain/coxswain/api/ControllerException") (Un : Unt h0 a) (Th : ThS Z h0) (rr : ∀ d ∈ twoRefs, d.before a0 Z = true) (hl : l.stackTraces = true) (ga : n0 ≤ a) :
    MetFree l (⟨"com/example/coxswain/coxswain/api/ControllerException", "<init>", "(ILjava/lang/String;Ljava/time/Duration;)V"⟩ : MethodName) (head1 (Jvm.Cond.code (⟨"com/example/coxswain/coxswain/api/ControllerException", "<init>", "(ILjava/lang/String;Ljava/time/Duration;)V"⟩ : MethodName) prog_5_method_4_code 4 none :: ws) ({ frames := 6, cells := 1, slots := 2752, locals := 84 } : Room)) (fun aQ UQ => aQ = #[(.ref a), (.int p1), (.ref sR), .null] ∧ Z.Warmed39 UQ.vm ∧ UQ.heap = h0) (fun _ _ bl s _ => s.vm.MethodsKnown ∧ s.vm.FramesKnown bl) (fun _ U o U' => ∃ v L, o = .returned v ∧ Qc4 Z a p1 sR h0 n0 v U'.heap L ∧ FrameEnd U o U' L ({ frames := 6, cells := 1, slots := 2752, locals := 84 } : Room).cells ({ frames := 6, cells := 1, slots := 2752, locals := 84 } : Room).slots) := by
  refine MetFree.of_bodySF (plainFor_of_name pnc4) hisR ?_
  intro p e s m args below meth c s₁ Bd hml0 hP hK
  obtain ⟨rfl, hZ, hh⟩ := hP
  have hx := Bd.exec
  have hby := Bd.bytes
  have hml : c.maxLocals = 4 := hml0
  have hown : s.vm.findClass "com/example/coxswain/coxswain/api/ControllerException" = some m.cls := findClass_of_methodNamed Bd.named
  have hnm := (name_of_methodNamed Bd.named Bd.method).1
  have X0 : Stand p l e ({ frames := 6, cells := 1, slots := 2752, locals := 84 } : Room) s m #[(.ref a), (.int p1), (.ref sR), .null] below meth c s₁ [] 0 0 := Stand.of_body Bd
  have e0 : s₁.heap = h0 := by rw [← hh, Bd.state]; rfl
  have N0 := Fr.nil n0
  show OGo p e below (OPost s (Qc4 Z a p1 sR h0 n0) ({ frames := 6, cells := 1, slots := 2752, locals := 84 } : Room).cells ({ frames := 6, cells := 1, slots := 2752, locals := 84 } : Room).slots) (s₁.setTop (entryFrame m #[(.ref a), (.int p1), (.ref sR), .null] 4))
  refine OGo.step (fun uK kK => castTop (efc4 m a p1 sR) kK) ?_
  show OGo p e below _ (s₁.setTop (mkF m 0 #[.val (.ref a), .val (.int p1), .val (.ref sR), .val .null] []))
  refine OGo.step (fun uK kK => XS.aloadN X0.here hx rfl (hb hby d3_0) rfl rfl kK) ?_
  show OGo p e below _ (s₁.setTop (mkF m 1 #[.val (.ref a), .val (.int p1), .val (.ref sR), .val .null] [(.ref a)]))
  refine OGo.step (fun uK kK => XS.aloadN X0.here hx rfl (hb hby d3_1) rfl rfl kK) ?_
  show OGo p e below _ (s₁.setTop (mkF m 2 #[.val (.ref a), .val (.int p1), .val (.ref sR), .val .null] [(.ref sR), (.ref a)]))
  obtain ⟨_, _, ⟨T1, Lq1, kq_1, nq_1⟩, -, X1, ⟨Lc1, hQ1, lq1, yq1, zq1⟩, st1⟩ := X0.specialBack hx (y := (⟨"java/io/IOException", "<init>", "(Ljava/lang/String;)V"⟩ : MethodName)) rfl hown (mvT hZ (hw _ (List.mem_of_getElem? (i := 22) rfl))) (mvT hZ (hw _ (List.mem_of_getElem? (i := 23) rfl))) (mvT hZ (hw _ (List.mem_of_getElem? (i := 26) rfl))) (by decide) (backOfKL (W := 0) (rmio l Z a0 hw [] a sR h0 n0 Z0 Fc_ Ft Fp Fb Fd Ex Un Th rr hl ga) hZ (hw _ (List.mem_of_getElem? (i := 26) rfl)) (hw _ (List.mem_of_getElem? (i := 25) rfl)) (by decide) (by decide) hK.1 hK.2) (g := (mkF m 2 #[.val (.ref a), .val (.int p1), .val (.ref sR), .val .null] [(.ref sR), (.ref a)])) rfl (by rw [hml]; rfl) (Steps.refl _) (a := a) (argsL := [(.ref sR)]) (rest := []) (lenOf pdc4_0 rfl) rfl (by show 2 * 0 + _ ≤ _; exact Nat.le_of_eq rfl) (hb hby d3_2) (fun _ _ => ⟨rfl, e0, (by decide : 0 + 1 ≤ _), (by decide : 0 + 2752 ≤ _)⟩)
  dsimp only [Pt.U, Pt.locs, Pt.cells, Pt.slots] at X1 lq1 yq1 zq1 st1 hQ1
  subst lq1 yq1 zq1
  obtain ⟨rfl, Nq1, K1, Kp1⟩ := hQ1
  have Ex_4 := (Ex.keep K1)
  have ZS1 : n0 ≤ T1.heap.size := Nat.le_trans Z0 K1.1
  have KC1 : Keep h0 T1.heap [a] := (Keep.refl h0 [a]).trans K1 (allS (Or.inl (List.mem_of_getElem? (i := 0) rfl)) all0)
  have N1 := Fr.app N0 Nq1
  refine OGo.steps st1 ?_
  show OGo p e below _ (T1.setTop (mkF m 5 #[.val (.ref a), .val (.int p1), .val (.ref sR), .val .null] []))
  have Fs1 := Fs.kp Kp1 (Or.inr (own_six_ne hw (Or.inr (hw _ (List.mem_of_getElem? (i := 79) rfl))) (ty := .int) (by decide) (by decide)))
  have Fr_1 := Fr_.kp Kp1 (Or.inr (own_six_ne hw (Or.inr (hw _ (List.mem_of_getElem? (i := 81) rfl))) (ty := (.object "java/time/Duration")) (by decide) (by decide)))
  refine OGo.step (fun uK kK => XS.aloadN X1.here hx rfl (hb hby d3_5) rfl rfl kK) ?_
  show OGo p e below _ (T1.setTop (mkF m 6 #[.val (.ref a), .val (.int p1), .val (.ref sR), .val .null] [(.ref a)]))
  refine OGo.step (fun uK kK => XS.iloadN X1.here hx rfl (hb hby d3_6) rfl kK) ?_
  show OGo p e below _ (T1.setTop (mkF m 7 #[.val (.ref a), .val (.int p1), .val (.ref sR), .val .null] [(.int p1), (.ref a)]))
  obtain ⟨T5, h5, X5, e5, W5, st5⟩ := putF X1 hx hZ hown (host := "") (Or.inl (hw _ (List.mem_of_getElem? (i := 78) rfl))) Via.refl rfl Fs1 Ex_4 (Or.inr ⟨(hw _ (List.mem_of_getElem? (i := 79) rfl)), rfl, hnm⟩) (hw _ (List.mem_of_getElem? (i := 6) rfl)) (ty := .int) (by decide) rfl rfl (g := (mkF m 7 #[.val (.ref a), .val (.int p1), .val (.ref sR), .val .null] [(.int p1), (.ref a)])) rfl rfl (hb hby d3_7)
  have Fw5 := Fs1.same W5
  have Ex_6 := (Ex_4.wr W5)
  have Fr_8 := (Fr_1.other W5 (Or.inr (slot_ne (Or.inr (hw _ (List.mem_of_getElem? (i := 81) rfl))) (Or.inr (hw _ (List.mem_of_getElem? (i := 79) rfl))) (by decide) (t := (.object "java/time/Duration")) (t' := .int) (by decide) (by decide))))
  have ZS5 : n0 ≤ h5.size := Nat.le_trans ZS1 (Keep.of_wr W5).1
  have KC5 : Keep h0 h5 [a] := KC1.wr W5 (Or.inl (List.mem_of_getElem? (i := 0) rfl))
  have N5 := Fr.snoc X5 N1 ga
  refine OGo.step (fun uK kK => st5 uK kK) ?_
  show OGo p e below _ (T5.setTop (mkF m 10 #[.val (.ref a), .val (.int p1), .val (.ref sR), .val .null] []))
  refine OGo.step (fun uK kK => XS.aloadN X5.here hx rfl (hb hby d3_10) rfl rfl kK) ?_
  show OGo p e below _ (T5.setTop (mkF m 11 #[.val (.ref a), .val (.int p1), .val (.ref sR), .val .null] [(.ref a)]))
  refine OGo.step (fun uK kK => XS.aloadN X5.here hx rfl (hb hby d3_11) rfl rfl kK) ?_
  show OGo p e below _ (T5.setTop (mkF m 12 #[.val (.ref a), .val (.int p1), .val (.ref sR), .val .null] [.null, (.ref a)]))
  obtain ⟨T9, h9, X9, e9, W9, st9⟩ := putF X5 hx hZ hown (host := "") (Or.inl (hw _ (List.mem_of_getElem? (i := 80) rfl))) Via.refl e5 Fr_8 Ex_6 (Or.inr ⟨(hw _ (List.mem_of_getElem? (i := 81) rfl)), rfl, hnm⟩) (hw _ (List.mem_of_getElem? (i := 6) rfl)) (ty := (.object "java/time/Duration")) (by decide) rfl rfl (g := (mkF m 12 #[.val (.ref a), .val (.int p1), .val (.ref sR), .val .null] [.null, (.ref a)])) rfl rfl (hb hby d3_12)
  have Fw9 := Fr_8.same W9
  have Ex_10 := (Ex_6.wr W9)
  have Fw5_12 := (Fw5.other W9 (Or.inr (slot_ne (Or.inr (hw _ (List.mem_of_getElem? (i := 79) rfl))) (Or.inr (hw _ (List.mem_of_getElem? (i := 81) rfl))) (by decide) (t := .int) (t' := (.object "java/time/Duration")) (by decide) (by decide))))
  have ZS9 : n0 ≤ h9.size := Nat.le_trans ZS5 (Keep.of_wr W9).1
  have KC9 : Keep h0 h9 [a] := KC5.wr W9 (Or.inl (List.mem_of_getElem? (i := 0) rfl))
  have N9 := Fr.snoc X9 N5 ga
  refine OGo.step (fun uK kK => st9 uK kK) ?_
  show OGo p e below _ (T9.setTop (mkF m 15 #[.val (.ref a), .val (.int p1), .val (.ref sR), .val .null] []))
  exact OGo.retV X9 hx Bd.notSynchronized Bd.returns (hb hby d3_15) (by decide) (by decide) (by show Qc4 Z a p1 sR h0 n0 _ T9.heap _; rw [e9]; exact ⟨rfl, N9, KC9, Fw5_12⟩)
theorem d2_0 : decode prog_5_method_3_code 0 = .ok (.aload_n 0, 1) := by decide +kernel
theorem d2_1 : decode prog_5_method_3_code 1 = .ok (.iload_n 1, 1) := by decide +kernel
theorem d2_2 : decode prog_5_method_3_code 2 = .ok (.aload_n 2, 1) := by decide +kernel
theorem d2_3 : decode prog_5_method_3_code 3 = .ok (.aconst_null, 1) := by decide +kernel
theorem d2_4 : decode prog_5_method_3_code 4 = .ok (.invokespecial 7, 3) := by decide +kernel
theorem d2_7 : decode prog_5_method_3_code 7 = .ok (.return_, 1) := by decide +kernel
theorem pnc3 : plainName "com/example/coxswain/coxswain/api/ControllerException" = true := by first | (simp [plainName, overriddenIn]; done) | decide +kernel
theorem pdc3_0 : parseMethodDescriptor "(ILjava/lang/String;Ljava/time/Duration;)V" = some ⟨[.int, (.object "java/lang/String"), (.object "java/time/Duration")], none⟩ := by decide +kernel
theorem efc3 (m : MethodId) (x0 : Addr) (x1 : Int32) (x2 : Addr) : entryFrame m #[(.ref x0), (.int x1), (.ref x2)] 3 = mkF m 0 #[.val (.ref x0), .val (.int x1), .val (.ref x2)] [] := by first | (simp [entryFrame, mkF, argsToLocals, Value.category]; done) | rfl
def Qc3 (Z : State) (a : Addr) (p1 : Int32) (sR : Addr) (h0 : Heap) (n0 : Nat) (v : Option Value) (h : Heap) (L : List Loc) : Prop := v = none ∧ Fr n0 L ∧ Keep h0 h [a] ∧ Fld Z h a "com/example/coxswain/coxswain/api/ControllerException" "status" "I" (.int p1)
set_option maxRecDepth 65536 in
set_option maxHeartbeats 40000000 in
theorem rmc3 (l : Launch) (Z : State) (a0 : Array Value) (hw : ∀ d ∈ tables_1, d.before a0 Z = true) (ws : List Jvm.Cond) (a : Addr) (p1 : Int32) (sR : Addr) (h0 : Heap) (n0 : Nat) (Z0 : n0 ≤ h0.size) (Fs : Fld Z h0 a "com/example/coxswain/coxswain/api/ControllerException" "status" "I" (.int (0 : Int32))) (Fr_ : Fld Z h0 a "com/example/coxswain/coxswain/api/ControllerException" "retryAfter" "Ljava/time/Duration;" .null) (Fc_ : Fld Z h0 a "java/lang/Throwable" "cause" "Ljava/lang/Throwable;" .null) (Ft : Fld Z h0 a "java/lang/Throwable" "stackTrace" "[Ljava/lang/StackTraceElement;" .null) (Fp : Fld Z h0 a "java/lang/Throwable" "suppressedExceptions" "Ljava/util/List;" .null) (Fb : Fld Z h0 a "java/lang/Throwable" "backtrace" "Ljava/lang/Object;" .null) (Fd : Fld Z h0 a "java/lang/Throwable" "detailMessage" "Ljava/lang/String;" .null) (Ex : Exa Z h0 a "com/example/coxswain/coxswain/api/ControllerException") (Un : Unt h0 a) (Th : ThS Z h0) (rr : ∀ d ∈ twoRefs, d.before a0 Z = true) (hl : l.stackTraces = true) (ga : n0 ≤ a) :
    MetFree l (⟨"com/example/coxswain/coxswain/api/ControllerException", "<init>", "(ILjava/lang/String;)V"⟩ : MethodName) (head1 (Jvm.Cond.code (⟨"com/example/coxswain/coxswain/api/ControllerException", "<init>", "(ILjava/lang/String;)V"⟩ : MethodName) prog_5_method_3_code 3 none :: ws) ({ frames := 7, cells := 1, slots := 2752, locals := 99 } : Room)) (fun aQ UQ => aQ = #[(.ref a), (.int p1), (.ref sR)] ∧ Z.Warmed39 UQ.vm ∧ UQ.heap = h0) (fun _ _ bl s _ => s.vm.MethodsKnown ∧ s.vm.FramesKnown bl) (fun _ U o U' => ∃ v L, o = .returned v ∧ Qc3 Z a p1 sR h0 n0 v U'.heap L ∧ FrameEnd U o U' L ({ frames := 7, cells := 1, slots := 2752, locals := 99 } : Room).cells ({ frames := 7, cells := 1, slots := 2752, locals := 99 } : Room).slots) := by
  refine MetFree.of_bodySF (plainFor_of_name pnc3) hisR ?_
  intro p e s m args below meth c s₁ Bd hml0 hP hK
  obtain ⟨rfl, hZ, hh⟩ := hP
  have hx := Bd.exec
  have hby := Bd.bytes
  have hml : c.maxLocals = 3 := hml0
  have hown : s.vm.findClass "com/example/coxswain/coxswain/api/ControllerException" = some m.cls := findClass_of_methodNamed Bd.named
  have hnm := (name_of_methodNamed Bd.named Bd.method).1
  have X0 : Stand p l e ({ frames := 7, cells := 1, slots := 2752, locals := 99 } : Room) s m #[(.ref a), (.int p1), (.ref sR)] below meth c s₁ [] 0 0 := Stand.of_body Bd
  have e0 : s₁.heap = h0 := by rw [← hh, Bd.state]; rfl
  have N0 := Fr.nil n0
  show OGo p e below (OPost s (Qc3 Z a p1 sR h0 n0) ({ frames := 7, cells := 1, slots := 2752, locals := 99 } : Room).cells ({ frames := 7, cells := 1, slots := 2752, locals := 99 } : Room).slots) (s₁.setTop (entryFrame m #[(.ref a), (.int p1), (.ref sR)] 3))
  refine OGo.step (fun uK kK => castTop (efc3 m a p1 sR) kK) ?_
  show OGo p e below _ (s₁.setTop (mkF m 0 #[.val (.ref a), .val (.int p1), .val (.ref sR)] []))
  refine OGo.step (fun uK kK => XS.aloadN X0.here hx rfl (hb hby d2_0) rfl rfl kK) ?_
  show OGo p e below _ (s₁.setTop (mkF m 1 #[.val (.ref a), .val (.int p1), .val (.ref sR)] [(.ref a)]))
  refine OGo.step (fun uK kK => XS.iloadN X0.here hx rfl (hb hby d2_1) rfl kK) ?_
  show OGo p e below _ (s₁.setTop (mkF m 2 #[.val (.ref a), .val (.int p1), .val (.ref sR)] [(.int p1), (.ref a)]))
  refine OGo.step (fun uK kK => XS.aloadN X0.here hx rfl (hb hby d2_2) rfl rfl kK) ?_
  show OGo p e below _ (s₁.setTop (mkF m 3 #[.val (.ref a), .val (.int p1), .val (.ref sR)] [(.ref sR), (.int p1), (.ref a)]))
  refine OGo.step (fun uK kK => XS.aconstNull X0.here hx rfl (hb hby d2_3) kK) ?_
  show OGo p e below _ (s₁.setTop (mkF m 4 #[.val (.ref a), .val (.int p1), .val (.ref sR)] [.null, (.ref sR), (.int p1), (.ref a)]))
  obtain ⟨_, _, ⟨T1, Lq1, kq_1, nq_1⟩, -, X1, ⟨Lc1, hQ1, lq1, yq1, zq1⟩, st1⟩ := X0.specialBack hx (y := (⟨"com/example/coxswain/coxswain/api/ControllerException", "<init>", "(ILjava/lang/String;Ljava/time/Duration;)V"⟩ : MethodName)) rfl hown (mvT hZ (hw _ (List.mem_of_getElem? (i := 19) rfl))) (mvT hZ (hw _ (List.mem_of_getElem? (i := 20) rfl))) (mvT hZ (hw _ (List.mem_of_getElem? (i := 21) rfl))) (by decide) (backOfKL (W := 0) (rmc4 l Z a0 hw [] a p1 sR h0 n0 Z0 Fs Fr_ Fc_ Ft Fp Fb Fd Ex Un Th rr hl ga) hZ (hw _ (List.mem_of_getElem? (i := 21) rfl)) (hw _ (List.mem_of_getElem? (i := 7) rfl)) (by decide) (by decide) hK.1 hK.2) (g := (mkF m 4 #[.val (.ref a), .val (.int p1), .val (.ref sR)] [.null, (.ref sR), (.int p1), (.ref a)])) rfl (by rw [hml]; rfl) (Steps.refl _) (a := a) (argsL := [(.int p1), (.ref sR), .null]) (rest := []) (lenOf pdc3_0 rfl) rfl (by show 2 * 0 + _ ≤ _; exact Nat.le_of_eq rfl) (hb hby d2_4) (fun _ _ => ⟨rfl, e0, (by decide : 0 + 1 ≤ _), (by decide : 0 + 2752 ≤ _)⟩)
  dsimp only [Pt.U, Pt.locs, Pt.cells, Pt.slots] at X1 lq1 yq1 zq1 st1 hQ1
  subst lq1 yq1 zq1
  obtain ⟨rfl, Nq1, K1, Fs1⟩ := hQ1
  have ZS1 : n0 ≤ T1.heap.size := Nat.le_trans Z0 K1.1
  have KC1 : Keep h0 T1.heap [a] := (Keep.refl h0 [a]).trans K1 (allS (Or.inl (List.mem_of_getElem? (i := 0) rfl)) all0)
  have N1 := Fr.app N0 Nq1
  refine OGo.steps st1 ?_
  show OGo p e below _ (T1.setTop (mkF m 7 #[.val (.ref a), .val (.int p1), .val (.ref sR)] []))
  exact OGo.retV X1 hx Bd.notSynchronized Bd.returns (hb hby d2_7) (by decide) (by decide) (by exact ⟨rfl, N1, KC1, Fs1⟩)
theorem pn0 : plainName "com/example/coxswain/coxswain/api/ControllerExceptionIsPinLaw" = true := by first | (simp [plainName, overriddenIn]; done) | decide +kernel
theorem pd0_0 : parseMethodDescriptor "(I)I" = some ⟨[.int], some .int⟩ := by decide +kernel
theorem pd0_1 : parseMethodDescriptor "(ILjava/lang/String;)V" = some ⟨[.int, (.object "java/lang/String")], none⟩ := by decide +kernel
theorem pd0_2 : parseMethodDescriptor "(I)Lcom/example/coxswain/coxswain/api/ApiStatus;" = some ⟨[.int], some (.object "com/example/coxswain/coxswain/api/ApiStatus")⟩ := by decide +kernel
theorem pd0_3 : parseMethodDescriptor "(Lcom/example/coxswain/coxswain/api/ApiStatus;)Z" = some ⟨[(.object "com/example/coxswain/coxswain/api/ApiStatus")], some .boolean⟩ := by decide +kernel
theorem ef0 (m : MethodId) (x0 : Int32) (x1 : Int32) (x2 : Int32) : entryFrame m #[(.int x0), (.int x1), (.int x2)] maxLocals = mkF m 0 #[.val (.int x0), .val (.int x1), .val (.int x2), .unset, .unset, .unset, .unset, .unset, .unset] [] := by first | (simp [entryFrame, mkF, argsToLocals, Value.category, maxLocals]; done) | rfl
def Q0 (Z : State) (s_ : Int32) (k_ : Int32) (md : Int32) (a_OK : Addr) (a_BAD_REQUEST : Addr) (a_UNAUTHORIZED : Addr) (a_FORBIDDEN : Addr) (a_NOT_FOUND : Addr) (a_METHOD_NOT_ALLOWED : Addr) (a_CONFLICT : Addr) (a_PAYLOAD_TOO_LARGE : Addr) (a_MISDIRECTED : Addr) (a_INTERNAL_ERROR : Addr) (a_UNAVAILABLE : Addr) (h0 : Heap) (n0 : Nat) (v : Option Value) (h : Heap) (L : List Loc) : Prop := v = some (.int 1) ∧ Fr n0 L
set_option maxRecDepth 65536 in
set_option maxHeartbeats 40000000 in
theorem rm0 (l : Launch) (Z : State) (a0 : Array Value) (hw : ∀ d ∈ tables_1, d.before a0 Z = true) (ws : List Jvm.Cond) (s_ : Int32) (k_ : Int32) (md : Int32) (a_OK : Addr) (a_BAD_REQUEST : Addr) (a_UNAUTHORIZED : Addr) (a_FORBIDDEN : Addr) (a_NOT_FOUND : Addr) (a_METHOD_NOT_ALLOWED : Addr) (a_CONFLICT : Addr) (a_PAYLOAD_TOO_LARGE : Addr) (a_MISDIRECTED : Addr) (a_INTERNAL_ERROR : Addr) (a_UNAVAILABLE : Addr) (h0 : Heap) (n0 : Nat) (Z0 : n0 ≤ h0.size) (H_OK : En Z Z.heap "OK" 200 a_OK) (H_BAD_REQUEST : En Z Z.heap "BAD_REQUEST" 400 a_BAD_REQUEST) (H_UNAUTHORIZED : En Z Z.heap "UNAUTHORIZED" 401 a_UNAUTHORIZED) (H_FORBIDDEN : En Z Z.heap "FORBIDDEN" 403 a_FORBIDDEN) (H_NOT_FOUND : En Z Z.heap "NOT_FOUND" 404 a_NOT_FOUND) (H_METHOD_NOT_ALLOWED : En Z Z.heap "METHOD_NOT_ALLOWED" 405 a_METHOD_NOT_ALLOWED) (H_CONFLICT : En Z Z.heap "CONFLICT" 409 a_CONFLICT) (H_PAYLOAD_TOO_LARGE : En Z Z.heap "PAYLOAD_TOO_LARGE" 413 a_PAYLOAD_TOO_LARGE) (H_MISDIRECTED : En Z Z.heap "MISDIRECTED" 421 a_MISDIRECTED) (H_INTERNAL_ERROR : En Z Z.heap "INTERNAL_ERROR" 500 a_INTERNAL_ERROR) (H_UNAVAILABLE : En Z Z.heap "UNAVAILABLE" 503 a_UNAVAILABLE) (Od : Old Z n0 h0) (Th : ThS Z h0) (rr : ∀ d ∈ twoRefs, d.before a0 Z = true) (hl : l.stackTraces = true) :
    MetFree l x (head1 (Jvm.Cond.code x code maxLocals ret :: ws) room_1) (fun aQ UQ => aQ = #[(.int s_), (.int k_), (.int md)] ∧ Z.Warmed39 UQ.vm ∧ UQ.heap = h0) (fun _ _ _ s _ => framesKnown s = true ∧ tablesKnown s = true) (fun _ U o U' => ∃ v L, o = .returned v ∧ Q0 Z s_ k_ md a_OK a_BAD_REQUEST a_UNAUTHORIZED a_FORBIDDEN a_NOT_FOUND a_METHOD_NOT_ALLOWED a_CONFLICT a_PAYLOAD_TOO_LARGE a_MISDIRECTED a_INTERNAL_ERROR a_UNAVAILABLE h0 n0 v U'.heap L ∧ ReturnedEndW U o U' L room_1.cells room_1.slots) := by
  refine MetFree.of_bodySF (plainFor_of_name pn0) hisR ?_
  intro p e s m args below meth c s₁ Bd hml0 hP hK
  obtain ⟨rfl, hZ, hh⟩ := hP
  have hx := Bd.exec
  have hby := Bd.bytes
  have hml : c.maxLocals = 9 := hml0
  have hown : s.vm.findClass "com/example/coxswain/coxswain/api/ControllerExceptionIsPinLaw" = some m.cls := findClass_of_methodNamed Bd.named
  have hnm := (name_of_methodNamed Bd.named Bd.method).1
  have X0 : Stand p l e room_1 s m #[(.int s_), (.int k_), (.int md)] below meth c s₁ [] 0 0 := Stand.of_body Bd
  have e0 : s₁.heap = h0 := by rw [← hh, Bd.state]; rfl
  have N0 := Fr.nil n0
  show OGo p e below (OPostW s (Q0 Z s_ k_ md a_OK a_BAD_REQUEST a_UNAUTHORIZED a_FORBIDDEN a_NOT_FOUND a_METHOD_NOT_ALLOWED a_CONFLICT a_PAYLOAD_TOO_LARGE a_MISDIRECTED a_INTERNAL_ERROR a_UNAVAILABLE h0 n0) room_1.cells room_1.slots) (s₁.setTop (entryFrame m #[(.int s_), (.int k_), (.int md)] maxLocals))
  refine OGo.step (fun uK kK => castTop (ef0 m s_ k_ md) kK) ?_
  obtain ⟨hTK, hBelow⟩ := X0.known hK.2 hK.1
  show OGo p e below _ (s₁.setTop (mkF m 0 #[.val (.int s_), .val (.int k_), .val (.int md), .unset, .unset, .unset, .unset, .unset, .unset] []))
  refine OGo.step (fun uK kK => XS.iloadN X0.here hx rfl (hb hby at_0) rfl kK) ?_
  show OGo p e below _ (s₁.setTop (mkF m 1 #[.val (.int s_), .val (.int k_), .val (.int md), .unset, .unset, .unset, .unset, .unset, .unset] [(.int k_)]))
  refine OGo.step (fun uK kK => X0.ldcI hx hown (mvT hZ (hw _ (List.mem_of_getElem? (i := 0) rfl))) rfl (hb hby at_1) kK) ?_
  show OGo p e below _ (s₁.setTop (mkF m 3 #[.val (.int s_), .val (.int k_), .val (.int md), .unset, .unset, .unset, .unset, .unset, .unset] [(.int (2147483647 : Int32)), (.int k_)]))
  refine OGo.step (fun uK kK => XS.iand X0.here hx rfl (hb hby at_3) rfl kK) ?_
  show OGo p e below _ (s₁.setTop (mkF m 4 #[.val (.int s_), .val (.int k_), .val (.int md), .unset, .unset, .unset, .unset, .unset, .unset] [(.int (k_ &&& (2147483647 : Int32)))]))
  refine OGo.step (fun uK kK => XS.bipush X0.here hx rfl (hb hby at_4) kK) ?_
  show OGo p e below _ (s₁.setTop (mkF m 6 #[.val (.int s_), .val (.int k_), .val (.int md), .unset, .unset, .unset, .unset, .unset, .unset] [(.int (11 : Int32)), (.int (k_ &&& (2147483647 : Int32)))]))
  have hnz6 : (11 : Int32) ≠ 0 := by decide
  refine OGo.step (fun uK kK => iremM X0 hx rfl (hb hby at_6) rfl hnz6 kK) ?_
  show OGo p e below _ (s₁.setTop (mkF m 7 #[.val (.int s_), .val (.int k_), .val (.int md), .unset, .unset, .unset, .unset, .unset, .unset] [(.int ((k_ &&& (2147483647 : Int32)) % (11 : Int32)))]))
  obtain ⟨ii, ev_ii⟩ : ∃ z : Int32, z = ((k_ &&& (2147483647 : Int32)) % (11 : Int32)) := ⟨_, rfl⟩
  rw [← ev_ii]
  show OGo p e below _ (s₁.setTop (mkF m 7 #[.val (.int s_), .val (.int k_), .val (.int md), .unset, .unset, .unset, .unset, .unset, .unset] [(.int ii)]))
  refine OGo.step (fun uK kK => XS.istoreN X0.here hx rfl (hb hby at_7) rfl (l' := #[.val (.int s_), .val (.int k_), .val (.int md), .val (.int ii), .unset, .unset, .unset, .unset, .unset]) rfl kK) ?_
  show OGo p e below _ (s₁.setTop (mkF m 8 #[.val (.int s_), .val (.int k_), .val (.int md), .val (.int ii), .unset, .unset, .unset, .unset, .unset] []))
  refine OGo.step (fun uK kK => XS.iloadN X0.here hx rfl (hb hby at_8) rfl kK) ?_
  show OGo p e below _ (s₁.setTop (mkF m 9 #[.val (.int s_), .val (.int k_), .val (.int md), .val (.int ii), .unset, .unset, .unset, .unset, .unset] [(.int md)]))
  refine OGo.step (fun uK kK => XS.iconst X0.here hx rfl (hb hby at_9) kK) ?_
  show OGo p e below _ (s₁.setTop (mkF m 10 #[.val (.int s_), .val (.int k_), .val (.int md), .val (.int ii), .unset, .unset, .unset, .unset, .unset] [(.int (2 : Int32)), (.int md)]))
  refine OGo.step (fun uK kK => XS.iushr X0.here hx rfl (hb hby at_10) rfl kK) ?_
  show OGo p e below _ (s₁.setTop (mkF m 11 #[.val (.int s_), .val (.int k_), .val (.int md), .val (.int ii), .unset, .unset, .unset, .unset, .unset] [(.int ((md.toUInt32 >>> ((2 : Int32) &&& 31).toUInt32).toInt32))]))
  refine OGo.step (fun uK kK => XS.bipush X0.here hx rfl (hb hby at_11) kK) ?_
  show OGo p e below _ (s₁.setTop (mkF m 13 #[.val (.int s_), .val (.int k_), .val (.int md), .val (.int ii), .unset, .unset, .unset, .unset, .unset] [(.int (11 : Int32)), (.int ((md.toUInt32 >>> ((2 : Int32) &&& 31).toUInt32).toInt32))]))
  have hnz13 : (11 : Int32) ≠ 0 := by decide
  refine OGo.step (fun uK kK => iremM X0 hx rfl (hb hby at_13) rfl hnz13 kK) ?_
  show OGo p e below _ (s₁.setTop (mkF m 14 #[.val (.int s_), .val (.int k_), .val (.int md), .val (.int ii), .unset, .unset, .unset, .unset, .unset] [(.int (((md.toUInt32 >>> ((2 : Int32) &&& 31).toUInt32).toInt32) % (11 : Int32)))]))
  obtain ⟨jj, ev_jj⟩ : ∃ z : Int32, z = (((md.toUInt32 >>> ((2 : Int32) &&& 31).toUInt32).toInt32) % (11 : Int32)) := ⟨_, rfl⟩
  rw [← ev_jj]
  show OGo p e below _ (s₁.setTop (mkF m 14 #[.val (.int s_), .val (.int k_), .val (.int md), .val (.int ii), .unset, .unset, .unset, .unset, .unset] [(.int jj)]))
  refine OGo.step (fun uK kK => XS.istore X0.here hx rfl (hb hby at_14) rfl (l' := #[.val (.int s_), .val (.int k_), .val (.int md), .val (.int ii), .val (.int jj), .unset, .unset, .unset, .unset]) rfl kK) ?_
  show OGo p e below _ (s₁.setTop (mkF m 16 #[.val (.int s_), .val (.int k_), .val (.int md), .val (.int ii), .val (.int jj), .unset, .unset, .unset, .unset] []))
  refine OGo.step (fun uK kK => XS.iloadN X0.here hx rfl (hb hby at_16) rfl kK) ?_
  show OGo p e below _ (s₁.setTop (mkF m 17 #[.val (.int s_), .val (.int k_), .val (.int md), .val (.int ii), .val (.int jj), .unset, .unset, .unset, .unset] [(.int md)]))
  refine OGo.step (fun uK kK => XS.iconst X0.here hx rfl (hb hby at_17) kK) ?_
  show OGo p e below _ (s₁.setTop (mkF m 18 #[.val (.int s_), .val (.int k_), .val (.int md), .val (.int ii), .val (.int jj), .unset, .unset, .unset, .unset] [(.int (3 : Int32)), (.int md)]))
  refine OGo.step (fun uK kK => XS.iand X0.here hx rfl (hb hby at_18) rfl kK) ?_
  show OGo p e below _ (s₁.setTop (mkF m 19 #[.val (.int s_), .val (.int k_), .val (.int md), .val (.int ii), .val (.int jj), .unset, .unset, .unset, .unset] [(.int (md &&& (3 : Int32)))]))
  obtain ⟨mm, ev_mm⟩ : ∃ z : Int32, z = (md &&& (3 : Int32)) := ⟨_, rfl⟩
  rw [← ev_mm]
  show OGo p e below _ (s₁.setTop (mkF m 19 #[.val (.int s_), .val (.int k_), .val (.int md), .val (.int ii), .val (.int jj), .unset, .unset, .unset, .unset] [(.int mm)]))
  refine OGo.step (fun uK kK => XS.istore X0.here hx rfl (hb hby at_19) rfl (l' := #[.val (.int s_), .val (.int k_), .val (.int md), .val (.int ii), .val (.int jj), .val (.int mm), .unset, .unset, .unset]) rfl kK) ?_
  show OGo p e below _ (s₁.setTop (mkF m 21 #[.val (.int s_), .val (.int k_), .val (.int md), .val (.int ii), .val (.int jj), .val (.int mm), .unset, .unset, .unset] []))
  suffices tail : ∀ (stv : Int32) (T' : State) (locs' : List Loc), Stand p l e room_1 s m #[(.int s_), (.int k_), (.int md)] below meth c T' locs' 0 0 → T'.heap = h0 → Fr n0 locs' → OGo p e below (OPostW s (Q0 Z s_ k_ md a_OK a_BAD_REQUEST a_UNAUTHORIZED a_FORBIDDEN a_NOT_FOUND a_METHOD_NOT_ALLOWED a_CONFLICT a_PAYLOAD_TOO_LARGE a_MISDIRECTED a_INTERNAL_ERROR a_UNAVAILABLE h0 n0) room_1.cells room_1.slots) (T'.setTop (mkF m 88 #[.val (.int s_), .val (.int k_), .val (.int md), .val (.int ii), .val (.int jj), .val (.int mm), .val (.int stv), .unset, .unset] [])) by
    refine OGo.step (fun uK kK => XS.iload X0.here hx rfl (hb hby at_21) rfl kK) ?_
    show OGo p e below _ (s₁.setTop (mkF m 23 #[.val (.int s_), .val (.int k_), .val (.int md), .val (.int ii), .val (.int jj), .val (.int mm), .unset, .unset, .unset] [(.int mm)]))
    by_cases h23 : mm = (0 : Int32)
    · skip
      refine OGo.step (fun uK kK => XS.ifNo X0.here hx rfl (hb hby at_23) rfl ((if0 _ _).trans (teq h23).2) kK) ?_
      show OGo p e below _ (s₁.setTop (mkF m 26 #[.val (.int s_), .val (.int k_), .val (.int md), .val (.int ii), .val (.int jj), .val (.int mm), .unset, .unset, .unset] []))
      refine OGo.step (fun uK kK => XS.iloadN X0.here hx rfl (hb hby at_26) rfl kK) ?_
      show OGo p e below _ (s₁.setTop (mkF m 27 #[.val (.int s_), .val (.int k_), .val (.int md), .val (.int ii), .val (.int jj), .val (.int mm), .unset, .unset, .unset] [(.int s_)]))
      refine OGo.step (fun uK kK => XS.istore X0.here hx rfl (hb hby at_27) rfl (l' := #[.val (.int s_), .val (.int k_), .val (.int md), .val (.int ii), .val (.int jj), .val (.int mm), .val (.int s_), .unset, .unset]) rfl kK) ?_
      show OGo p e below _ (s₁.setTop (mkF m 29 #[.val (.int s_), .val (.int k_), .val (.int md), .val (.int ii), .val (.int jj), .val (.int mm), .val (.int s_), .unset, .unset] []))
      refine OGo.step (fun uK kK => XS.goto X0.here hx rfl (pc0 := 29) (pc' := 88) rfl (hb hby at_29) (by decide) (by decide) kK) ?_
      show OGo p e below _ (s₁.setTop (mkF m 88 #[.val (.int s_), .val (.int k_), .val (.int md), .val (.int ii), .val (.int jj), .val (.int mm), .val (.int s_), .unset, .unset] []))
      exact tail _ _ _ X0 e0 N0
    · skip
      refine OGo.step (fun uK kK => XS.ifYes X0.here hx rfl (pc0 := 23) (pc' := 32) rfl (hb hby at_23) rfl ((if0 _ _).trans (feq h23).2) (by decide) (by decide) kK) ?_
      show OGo p e below _ (s₁.setTop (mkF m 32 #[.val (.int s_), .val (.int k_), .val (.int md), .val (.int ii), .val (.int jj), .val (.int mm), .unset, .unset, .unset] []))
      refine OGo.step (fun uK kK => XS.iload X0.here hx rfl (hb hby at_32) rfl kK) ?_
      show OGo p e below _ (s₁.setTop (mkF m 34 #[.val (.int s_), .val (.int k_), .val (.int md), .val (.int ii), .val (.int jj), .val (.int mm), .unset, .unset, .unset] [(.int mm)]))
      refine OGo.step (fun uK kK => XS.iconst X0.here hx rfl (hb hby at_34) kK) ?_
      show OGo p e below _ (s₁.setTop (mkF m 35 #[.val (.int s_), .val (.int k_), .val (.int md), .val (.int ii), .val (.int jj), .val (.int mm), .unset, .unset, .unset] [(.int (1 : Int32)), (.int mm)]))
      by_cases h35 : mm = (1 : Int32)
      · skip
        refine OGo.step (fun uK kK => XS.icmpNo X0.here hx rfl (hb hby at_35) rfl (teq h35).2 kK) ?_
        show OGo p e below _ (s₁.setTop (mkF m 38 #[.val (.int s_), .val (.int k_), .val (.int md), .val (.int ii), .val (.int jj), .val (.int mm), .unset, .unset, .unset] []))
        refine OGo.step (fun uK kK => XS.iloadN X0.here hx rfl (hb hby at_38) rfl kK) ?_
        show OGo p e below _ (s₁.setTop (mkF m 39 #[.val (.int s_), .val (.int k_), .val (.int md), .val (.int ii), .val (.int jj), .val (.int mm), .unset, .unset, .unset] [(.int ii)]))
        obtain ⟨_, _, ⟨T1, Lq1, kq_1, nq_1⟩, -, X1, ⟨Lc1, hQ1, lq1, yq1, zq1⟩, st1⟩ := Jvm.LawKit.callS X0 hx (y := (⟨"com/example/coxswain/coxswain/api/ControllerExceptionIsPinLaw", "codeOf", "(I)I"⟩ : MethodName)) hown (mvT hZ (hw _ (List.mem_of_getElem? (i := 1) rfl))) (mvT hZ (hw _ (List.mem_of_getElem? (i := 2) rfl))) (mvT hZ (hw _ (List.mem_of_getElem? (i := 3) rfl))) (mvT hZ (hw _ (List.mem_of_getElem? (i := 4) rfl))) (by decide) (backOf (W := 0) (rmco l Z a0 hw [] ii  h0 n0 Z0 ) hZ (hw _ (List.mem_of_getElem? (i := 4) rfl)) (hw _ (List.mem_of_getElem? (i := 3) rfl)) (by decide) (by decide)) (g := (mkF m 39 #[.val (.int s_), .val (.int k_), .val (.int md), .val (.int ii), .val (.int jj), .val (.int mm), .unset, .unset, .unset] [(.int ii)])) rfl (by rw [hml]; rfl) (argsL := [(.int ii)]) (rest := []) (lenOf pd0_0 rfl) rfl (by show 2 * 0 + _ ≤ _; exact Nat.le_of_eq rfl) (hb hby at_39) (fun _ _ => ⟨rfl, e0, (by decide : 0 + 0 ≤ _), (by decide : 0 + 0 ≤ _)⟩)
        dsimp only [Pt.U, Pt.locs, Pt.cells, Pt.slots] at X1 lq1 yq1 zq1 st1 hQ1
        subst lq1 yq1 zq1
        obtain ⟨rfl, Nq1, e1⟩ := hQ1
        have N1 := Fr.app N0 Nq1
        refine OGo.step (fun uK kK => st1 uK kK) ?_
        show OGo p e below _ (T1.setTop (mkF m 42 #[.val (.int s_), .val (.int k_), .val (.int md), .val (.int ii), .val (.int jj), .val (.int mm), .unset, .unset, .unset] [(.int (cof ii))]))
        refine OGo.step (fun uK kK => XS.istore X1.here hx rfl (hb hby at_42) rfl (l' := #[.val (.int s_), .val (.int k_), .val (.int md), .val (.int ii), .val (.int jj), .val (.int mm), .val (.int (cof ii)), .unset, .unset]) rfl kK) ?_
        show OGo p e below _ (T1.setTop (mkF m 44 #[.val (.int s_), .val (.int k_), .val (.int md), .val (.int ii), .val (.int jj), .val (.int mm), .val (.int (cof ii)), .unset, .unset] []))
        refine OGo.step (fun uK kK => XS.goto X1.here hx rfl (pc0 := 44) (pc' := 88) rfl (hb hby at_44) (by decide) (by decide) kK) ?_
        show OGo p e below _ (T1.setTop (mkF m 88 #[.val (.int s_), .val (.int k_), .val (.int md), .val (.int ii), .val (.int jj), .val (.int mm), .val (.int (cof ii)), .unset, .unset] []))
        exact tail _ _ _ X1 e1 N1
      · skip
        refine OGo.step (fun uK kK => XS.icmpYes X0.here hx rfl (pc0 := 35) (pc' := 47) rfl (hb hby at_35) rfl (feq h35).2 (by decide) (by decide) kK) ?_
        show OGo p e below _ (s₁.setTop (mkF m 47 #[.val (.int s_), .val (.int k_), .val (.int md), .val (.int ii), .val (.int jj), .val (.int mm), .unset, .unset, .unset] []))
        refine OGo.step (fun uK kK => XS.iload X0.here hx rfl (hb hby at_47) rfl kK) ?_
        show OGo p e below _ (s₁.setTop (mkF m 49 #[.val (.int s_), .val (.int k_), .val (.int md), .val (.int ii), .val (.int jj), .val (.int mm), .unset, .unset, .unset] [(.int mm)]))
        refine OGo.step (fun uK kK => XS.iconst X0.here hx rfl (hb hby at_49) kK) ?_
        show OGo p e below _ (s₁.setTop (mkF m 50 #[.val (.int s_), .val (.int k_), .val (.int md), .val (.int ii), .val (.int jj), .val (.int mm), .unset, .unset, .unset] [(.int (2 : Int32)), (.int mm)]))
        by_cases h50 : mm = (2 : Int32)
        · skip
          refine OGo.step (fun uK kK => XS.icmpNo X0.here hx rfl (hb hby at_50) rfl (teq h50).2 kK) ?_
          show OGo p e below _ (s₁.setTop (mkF m 53 #[.val (.int s_), .val (.int k_), .val (.int md), .val (.int ii), .val (.int jj), .val (.int mm), .unset, .unset, .unset] []))
          refine OGo.step (fun uK kK => XS.iload X0.here hx rfl (hb hby at_53) rfl kK) ?_
          show OGo p e below _ (s₁.setTop (mkF m 55 #[.val (.int s_), .val (.int k_), .val (.int md), .val (.int ii), .val (.int jj), .val (.int mm), .unset, .unset, .unset] [(.int jj)]))
          obtain ⟨_, _, ⟨T2, Lq2, kq_2, nq_2⟩, -, X2, ⟨Lc2, hQ2, lq2, yq2, zq2⟩, st2⟩ := Jvm.LawKit.callS X0 hx (y := (⟨"com/example/coxswain/coxswain/api/ControllerExceptionIsPinLaw", "codeOf", "(I)I"⟩ : MethodName)) hown (mvT hZ (hw _ (List.mem_of_getElem? (i := 1) rfl))) (mvT hZ (hw _ (List.mem_of_getElem? (i := 2) rfl))) (mvT hZ (hw _ (List.mem_of_getElem? (i := 3) rfl))) (mvT hZ (hw _ (List.mem_of_getElem? (i := 4) rfl))) (by decide) (backOf (W := 0) (rmco l Z a0 hw [] jj  h0 n0 Z0 ) hZ (hw _ (List.mem_of_getElem? (i := 4) rfl)) (hw _ (List.mem_of_getElem? (i := 3) rfl)) (by decide) (by decide)) (g := (mkF m 55 #[.val (.int s_), .val (.int k_), .val (.int md), .val (.int ii), .val (.int jj), .val (.int mm), .unset, .unset, .unset] [(.int jj)])) rfl (by rw [hml]; rfl) (argsL := [(.int jj)]) (rest := []) (lenOf pd0_0 rfl) rfl (by show 2 * 0 + _ ≤ _; exact Nat.le_of_eq rfl) (hb hby at_55) (fun _ _ => ⟨rfl, e0, (by decide : 0 + 0 ≤ _), (by decide : 0 + 0 ≤ _)⟩)
          dsimp only [Pt.U, Pt.locs, Pt.cells, Pt.slots] at X2 lq2 yq2 zq2 st2 hQ2
          subst lq2 yq2 zq2
          obtain ⟨rfl, Nq2, e2⟩ := hQ2
          have N2 := Fr.app N0 Nq2
          refine OGo.step (fun uK kK => st2 uK kK) ?_
          show OGo p e below _ (T2.setTop (mkF m 58 #[.val (.int s_), .val (.int k_), .val (.int md), .val (.int ii), .val (.int jj), .val (.int mm), .unset, .unset, .unset] [(.int (cof jj))]))
          refine OGo.step (fun uK kK => XS.istore X2.here hx rfl (hb hby at_58) rfl (l' := #[.val (.int s_), .val (.int k_), .val (.int md), .val (.int ii), .val (.int jj), .val (.int mm), .val (.int (cof jj)), .unset, .unset]) rfl kK) ?_
          show OGo p e below _ (T2.setTop (mkF m 60 #[.val (.int s_), .val (.int k_), .val (.int md), .val (.int ii), .val (.int jj), .val (.int mm), .val (.int (cof jj)), .unset, .unset] []))
          refine OGo.step (fun uK kK => XS.goto X2.here hx rfl (pc0 := 60) (pc' := 88) rfl (hb hby at_60) (by decide) (by decide) kK) ?_
          show OGo p e below _ (T2.setTop (mkF m 88 #[.val (.int s_), .val (.int k_), .val (.int md), .val (.int ii), .val (.int jj), .val (.int mm), .val (.int (cof jj)), .unset, .unset] []))
          exact tail _ _ _ X2 e2 N2
        · skip
          refine OGo.step (fun uK kK => XS.icmpYes X0.here hx rfl (pc0 := 50) (pc' := 63) rfl (hb hby at_50) rfl (feq h50).2 (by decide) (by decide) kK) ?_
          show OGo p e below _ (s₁.setTop (mkF m 63 #[.val (.int s_), .val (.int k_), .val (.int md), .val (.int ii), .val (.int jj), .val (.int mm), .unset, .unset, .unset] []))
          refine OGo.step (fun uK kK => XS.iloadN X0.here hx rfl (hb hby at_63) rfl kK) ?_
          show OGo p e below _ (s₁.setTop (mkF m 64 #[.val (.int s_), .val (.int k_), .val (.int md), .val (.int ii), .val (.int jj), .val (.int mm), .unset, .unset, .unset] [(.int s_)]))
          refine OGo.step (fun uK kK => XS.iconst X0.here hx rfl (hb hby at_64) kK) ?_
          show OGo p e below _ (s₁.setTop (mkF m 65 #[.val (.int s_), .val (.int k_), .val (.int md), .val (.int ii), .val (.int jj), .val (.int mm), .unset, .unset, .unset] [(.int (1 : Int32)), (.int s_)]))
          refine OGo.step (fun uK kK => XS.iand X0.here hx rfl (hb hby at_65) rfl kK) ?_
          show OGo p e below _ (s₁.setTop (mkF m 66 #[.val (.int s_), .val (.int k_), .val (.int md), .val (.int ii), .val (.int jj), .val (.int mm), .unset, .unset, .unset] [(.int (s_ &&& (1 : Int32)))]))
          by_cases h66 : (s_ &&& (1 : Int32)) = (0 : Int32)
          · skip
            refine OGo.step (fun uK kK => XS.ifNo X0.here hx rfl (hb hby at_66) rfl ((if0 _ _).trans (teq h66).2) kK) ?_
            show OGo p e below _ (s₁.setTop (mkF m 69 #[.val (.int s_), .val (.int k_), .val (.int md), .val (.int ii), .val (.int jj), .val (.int mm), .unset, .unset, .unset] []))
            refine OGo.step (fun uK kK => XS.iloadN X0.here hx rfl (hb hby at_69) rfl kK) ?_
            show OGo p e below _ (s₁.setTop (mkF m 70 #[.val (.int s_), .val (.int k_), .val (.int md), .val (.int ii), .val (.int jj), .val (.int mm), .unset, .unset, .unset] [(.int ii)]))
            obtain ⟨_, _, ⟨T3, Lq3, kq_3, nq_3⟩, -, X3, ⟨Lc3, hQ3, lq3, yq3, zq3⟩, st3⟩ := Jvm.LawKit.callS X0 hx (y := (⟨"com/example/coxswain/coxswain/api/ControllerExceptionIsPinLaw", "codeOf", "(I)I"⟩ : MethodName)) hown (mvT hZ (hw _ (List.mem_of_getElem? (i := 1) rfl))) (mvT hZ (hw _ (List.mem_of_getElem? (i := 2) rfl))) (mvT hZ (hw _ (List.mem_of_getElem? (i := 3) rfl))) (mvT hZ (hw _ (List.mem_of_getElem? (i := 4) rfl))) (by decide) (backOf (W := 0) (rmco l Z a0 hw [] ii  h0 n0 Z0 ) hZ (hw _ (List.mem_of_getElem? (i := 4) rfl)) (hw _ (List.mem_of_getElem? (i := 3) rfl)) (by decide) (by decide)) (g := (mkF m 70 #[.val (.int s_), .val (.int k_), .val (.int md), .val (.int ii), .val (.int jj), .val (.int mm), .unset, .unset, .unset] [(.int ii)])) rfl (by rw [hml]; rfl) (argsL := [(.int ii)]) (rest := []) (lenOf pd0_0 rfl) rfl (by show 2 * 0 + _ ≤ _; exact Nat.le_of_eq rfl) (hb hby at_70) (fun _ _ => ⟨rfl, e0, (by decide : 0 + 0 ≤ _), (by decide : 0 + 0 ≤ _)⟩)
            dsimp only [Pt.U, Pt.locs, Pt.cells, Pt.slots] at X3 lq3 yq3 zq3 st3 hQ3
            subst lq3 yq3 zq3
            obtain ⟨rfl, Nq3, e3⟩ := hQ3
            have N3 := Fr.app N0 Nq3
            refine OGo.step (fun uK kK => st3 uK kK) ?_
            show OGo p e below _ (T3.setTop (mkF m 73 #[.val (.int s_), .val (.int k_), .val (.int md), .val (.int ii), .val (.int jj), .val (.int mm), .unset, .unset, .unset] [(.int (cof ii))]))
            refine OGo.step (fun uK kK => XS.iconst X3.here hx rfl (hb hby at_73) kK) ?_
            show OGo p e below _ (T3.setTop (mkF m 74 #[.val (.int s_), .val (.int k_), .val (.int md), .val (.int ii), .val (.int jj), .val (.int mm), .unset, .unset, .unset] [(.int (1 : Int32)), (.int (cof ii))]))
            refine OGo.step (fun uK kK => XS.iadd X3.here hx rfl (hb hby at_74) rfl kK) ?_
            show OGo p e below _ (T3.setTop (mkF m 75 #[.val (.int s_), .val (.int k_), .val (.int md), .val (.int ii), .val (.int jj), .val (.int mm), .unset, .unset, .unset] [(.int ((cof ii) + (1 : Int32)))]))
            refine OGo.step (fun uK kK => XS.istore X3.here hx rfl (hb hby at_75) rfl (l' := #[.val (.int s_), .val (.int k_), .val (.int md), .val (.int ii), .val (.int jj), .val (.int mm), .val (.int ((cof ii) + (1 : Int32))), .unset, .unset]) rfl kK) ?_
            show OGo p e below _ (T3.setTop (mkF m 77 #[.val (.int s_), .val (.int k_), .val (.int md), .val (.int ii), .val (.int jj), .val (.int mm), .val (.int ((cof ii) + (1 : Int32))), .unset, .unset] []))
            refine OGo.step (fun uK kK => XS.goto X3.here hx rfl (pc0 := 77) (pc' := 88) rfl (hb hby at_77) (by decide) (by decide) kK) ?_
            show OGo p e below _ (T3.setTop (mkF m 88 #[.val (.int s_), .val (.int k_), .val (.int md), .val (.int ii), .val (.int jj), .val (.int mm), .val (.int ((cof ii) + (1 : Int32))), .unset, .unset] []))
            exact tail _ _ _ X3 e3 N3
          · skip
            refine OGo.step (fun uK kK => XS.ifYes X0.here hx rfl (pc0 := 66) (pc' := 80) rfl (hb hby at_66) rfl ((if0 _ _).trans (feq h66).2) (by decide) (by decide) kK) ?_
            show OGo p e below _ (s₁.setTop (mkF m 80 #[.val (.int s_), .val (.int k_), .val (.int md), .val (.int ii), .val (.int jj), .val (.int mm), .unset, .unset, .unset] []))
            refine OGo.step (fun uK kK => XS.iloadN X0.here hx rfl (hb hby at_80) rfl kK) ?_
            show OGo p e below _ (s₁.setTop (mkF m 81 #[.val (.int s_), .val (.int k_), .val (.int md), .val (.int ii), .val (.int jj), .val (.int mm), .unset, .unset, .unset] [(.int ii)]))
            obtain ⟨_, _, ⟨T4, Lq4, kq_4, nq_4⟩, -, X4, ⟨Lc4, hQ4, lq4, yq4, zq4⟩, st4⟩ := Jvm.LawKit.callS X0 hx (y := (⟨"com/example/coxswain/coxswain/api/ControllerExceptionIsPinLaw", "codeOf", "(I)I"⟩ : MethodName)) hown (mvT hZ (hw _ (List.mem_of_getElem? (i := 1) rfl))) (mvT hZ (hw _ (List.mem_of_getElem? (i := 2) rfl))) (mvT hZ (hw _ (List.mem_of_getElem? (i := 3) rfl))) (mvT hZ (hw _ (List.mem_of_getElem? (i := 4) rfl))) (by decide) (backOf (W := 0) (rmco l Z a0 hw [] ii  h0 n0 Z0 ) hZ (hw _ (List.mem_of_getElem? (i := 4) rfl)) (hw _ (List.mem_of_getElem? (i := 3) rfl)) (by decide) (by decide)) (g := (mkF m 81 #[.val (.int s_), .val (.int k_), .val (.int md), .val (.int ii), .val (.int jj), .val (.int mm), .unset, .unset, .unset] [(.int ii)])) rfl (by rw [hml]; rfl) (argsL := [(.int ii)]) (rest := []) (lenOf pd0_0 rfl) rfl (by show 2 * 0 + _ ≤ _; exact Nat.le_of_eq rfl) (hb hby at_81) (fun _ _ => ⟨rfl, e0, (by decide : 0 + 0 ≤ _), (by decide : 0 + 0 ≤ _)⟩)
            dsimp only [Pt.U, Pt.locs, Pt.cells, Pt.slots] at X4 lq4 yq4 zq4 st4 hQ4
            subst lq4 yq4 zq4
            obtain ⟨rfl, Nq4, e4⟩ := hQ4
            have N4 := Fr.app N0 Nq4
            refine OGo.step (fun uK kK => st4 uK kK) ?_
            show OGo p e below _ (T4.setTop (mkF m 84 #[.val (.int s_), .val (.int k_), .val (.int md), .val (.int ii), .val (.int jj), .val (.int mm), .unset, .unset, .unset] [(.int (cof ii))]))
            refine OGo.step (fun uK kK => XS.iconst X4.here hx rfl (hb hby at_84) kK) ?_
            show OGo p e below _ (T4.setTop (mkF m 85 #[.val (.int s_), .val (.int k_), .val (.int md), .val (.int ii), .val (.int jj), .val (.int mm), .unset, .unset, .unset] [(.int (1 : Int32)), (.int (cof ii))]))
            refine OGo.step (fun uK kK => XS.isub X4.here hx rfl (hb hby at_85) rfl kK) ?_
            show OGo p e below _ (T4.setTop (mkF m 86 #[.val (.int s_), .val (.int k_), .val (.int md), .val (.int ii), .val (.int jj), .val (.int mm), .unset, .unset, .unset] [(.int ((cof ii) - (1 : Int32)))]))
            refine OGo.step (fun uK kK => XS.istore X4.here hx rfl (hb hby at_86) rfl (l' := #[.val (.int s_), .val (.int k_), .val (.int md), .val (.int ii), .val (.int jj), .val (.int mm), .val (.int ((cof ii) - (1 : Int32))), .unset, .unset]) rfl kK) ?_
            show OGo p e below _ (T4.setTop (mkF m 88 #[.val (.int s_), .val (.int k_), .val (.int md), .val (.int ii), .val (.int jj), .val (.int mm), .val (.int ((cof ii) - (1 : Int32))), .unset, .unset] []))
            exact tail _ _ _ X4 e4 N4
  intro stv T5 locs5 X5 e5 N5
  show OGo p e below _ (T5.setTop (mkF m 88 #[.val (.int s_), .val (.int k_), .val (.int md), .val (.int ii), .val (.int jj), .val (.int mm), .val (.int stv), .unset, .unset] []))
  obtain ⟨T6, h6, X6, e6, E6, A6, D6, U6, st6⟩ := newO X5 hx hZ hown (hw _ (List.mem_of_getElem? (i := 5) rfl)) (hw _ (List.mem_of_getElem? (i := 6) rfl)) (hw _ (List.mem_of_getElem? (i := 7) rfl)) e5 (g := (mkF m 88 #[.val (.int s_), .val (.int k_), .val (.int md), .val (.int ii), .val (.int jj), .val (.int mm), .val (.int stv), .unset, .unset] [])) rfl (hb hby at_88) (by decide) (by decide)
  obtain ⟨b6, g6⟩ : ∃ z, z = h0.size := ⟨_, rfl⟩
  rw [← g6] at A6 D6 U6 st6
  have gn_b6 : n0 ≤ b6 := Nat.le_trans Z0 (Nat.le_of_eq g6.symm)
  have sz_b6 : h0.size ≤ b6 := Nat.le_trans (Keep.refl h0 []).1 (Nat.le_of_eq g6.symm)
  have Th_7 := (Th.ext E6)
  have ZS6 : n0 ≤ h6.size := Nat.le_trans Z0 E6.1
  have KC6 : Keep h0 h6 [] := (Keep.refl h0 []).ext E6
  have Od6 := Od.ext E6
  have Un6 : Unt h6 b6 := U6
  have Fcause_b6 : Fld Z h6 b6 "java/lang/Throwable" "cause" "Ljava/lang/Throwable;" .null := D6 (Or.inl (hw _ (List.mem_of_getElem? (i := 43) rfl))) (ty := (.object "java/lang/Throwable")) (by decide)
  have FstackTrace_b6 : Fld Z h6 b6 "java/lang/Throwable" "stackTrace" "[Ljava/lang/StackTraceElement;" .null := D6 (Or.inl (hw _ (List.mem_of_getElem? (i := 46) rfl))) (ty := (.array (.object "java/lang/StackTraceElement"))) (by decide)
  have FsuppressedExceptions_b6 : Fld Z h6 b6 "java/lang/Throwable" "suppressedExceptions" "Ljava/util/List;" .null := D6 (Or.inl (hw _ (List.mem_of_getElem? (i := 49) rfl))) (ty := (.object "java/util/List")) (by decide)
  have FdetailMessage_b6 : Fld Z h6 b6 "java/lang/Throwable" "detailMessage" "Ljava/lang/String;" .null := D6 (Or.inl (hw _ (List.mem_of_getElem? (i := 73) rfl))) (ty := (.object "java/lang/String")) (by decide)
  have Fbacktrace_b6 : Fld Z h6 b6 "java/lang/Throwable" "backtrace" "Ljava/lang/Object;" .null := D6 (Or.inl (hw _ (List.mem_of_getElem? (i := 74) rfl))) (ty := (.object "java/lang/Object")) (by decide)
  have Fdepth_b6 : Fld Z h6 b6 "java/lang/Throwable" "depth" "I" (.int (0 : Int32)) := D6 (Or.inl (hw _ (List.mem_of_getElem? (i := 75) rfl))) (ty := .int) (by decide)
  have Fstatus_b6 : Fld Z h6 b6 "com/example/coxswain/coxswain/api/ControllerException" "status" "I" (.int (0 : Int32)) := D6 (Or.inr (hw _ (List.mem_of_getElem? (i := 79) rfl))) (ty := .int) (by decide)
  have FretryAfter_b6 : Fld Z h6 b6 "com/example/coxswain/coxswain/api/ControllerException" "retryAfter" "Ljava/time/Duration;" .null := D6 (Or.inr (hw _ (List.mem_of_getElem? (i := 81) rfl))) (ty := (.object "java/time/Duration")) (by decide)
  refine OGo.step (fun uK kK => st6 uK kK) ?_
  show OGo p e below _ (T6.setTop (mkF m 91 #[.val (.int s_), .val (.int k_), .val (.int md), .val (.int ii), .val (.int jj), .val (.int mm), .val (.int stv), .unset, .unset] [(.ref b6)]))
  refine OGo.step (fun uK kK => XS.dup X6.here hx rfl (hb hby at_91) rfl rfl kK) ?_
  show OGo p e below _ (T6.setTop (mkF m 92 #[.val (.int s_), .val (.int k_), .val (.int md), .val (.int ii), .val (.int jj), .val (.int mm), .val (.int stv), .unset, .unset] [(.ref b6), (.ref b6)]))
  refine OGo.step (fun uK kK => XS.iload X6.here hx rfl (hb hby at_92) rfl kK) ?_
  show OGo p e below _ (T6.setTop (mkF m 94 #[.val (.int s_), .val (.int k_), .val (.int md), .val (.int ii), .val (.int jj), .val (.int mm), .val (.int stv), .unset, .unset] [(.int stv), (.ref b6), (.ref b6)]))
  obtain ⟨sR, T8, h8, k1_, X8, e8, E8, hS1, hk1, hZ2, hown2, st8⟩ := ldcS (s := s) (vm0 := s.vm) X6 hx hZ hown (hw _ (List.mem_of_getElem? (i := 8) rfl)) (fun d hd => hw d (own_str_in d hd)) e6 (k0 := 0) ((State.WarmedH.refl s).since 0) (Nat.zero_le _) (g := (mkF m 94 #[.val (.int s_), .val (.int k_), .val (.int md), .val (.int ii), .val (.int jj), .val (.int mm), .val (.int stv), .unset, .unset] [(.int stv), (.ref b6), (.ref b6)])) rfl (hb hby at_94) (n := 4) (by decide) (by decide) (by decide) (by decide)
  have hTK2 : (s.setVm T8.vm).vm.MethodsKnown := Vm.MethodsKnown.alikeC hS1.1.alike hTK
  have hBelow2 : (s.setVm T8.vm).vm.FramesKnown below := Vm.FramesKnown.alikeC hS1.1.alike hBelow
  clear hZ hown
  have hZ := hZ2
  have hown := hown2
  have Th_9 := (Th_7.ext E8)
  have A6_10 := (A6.ext E8)
  have Un6_11 := (Un6.ext E8)
  have Fcause_b6_12 := (Fcause_b6.ext E8)
  have FstackTrace_b6_13 := (FstackTrace_b6.ext E8)
  have FsuppressedExceptions_b6_14 := (FsuppressedExceptions_b6.ext E8)
  have FdetailMessage_b6_15 := (FdetailMessage_b6.ext E8)
  have Fbacktrace_b6_16 := (Fbacktrace_b6.ext E8)
  have Fdepth_b6_17 := (Fdepth_b6.ext E8)
  have Fstatus_b6_18 := (Fstatus_b6.ext E8)
  have FretryAfter_b6_19 := (FretryAfter_b6.ext E8)
  have ZS8 : n0 ≤ h8.size := Nat.le_trans ZS6 E8.1
  have KC8 : Keep h0 h8 [] := KC6.ext E8
  have Od8 := Od6.ext E8
  refine OGo.step (fun uK kK => st8 uK kK) ?_
  show OGo p e below _ (T8.setTop (mkF m 96 #[.val (.int s_), .val (.int k_), .val (.int md), .val (.int ii), .val (.int jj), .val (.int mm), .val (.int stv), .unset, .unset] [(.ref sR), (.int stv), (.ref b6), (.ref b6)]))
  obtain ⟨_, _, ⟨T20, Lq20, kq_20, nq_20⟩, -, X20, ⟨Lc20, hQ20, lq20, yq20, zq20⟩, st20⟩ := X8.specialBack hx (y := (⟨"com/example/coxswain/coxswain/api/ControllerException", "<init>", "(ILjava/lang/String;)V"⟩ : MethodName)) rfl hown (mvT hZ (hw _ (List.mem_of_getElem? (i := 16) rfl))) (mvT hZ (hw _ (List.mem_of_getElem? (i := 17) rfl))) (mvT hZ (hw _ (List.mem_of_getElem? (i := 18) rfl))) (by decide) (backOfKL (W := 1) (rmc3 l Z a0 hw [] b6 stv sR h8 n0 ZS8 Fstatus_b6_18 FretryAfter_b6_19 Fcause_b6_12 FstackTrace_b6_13 FsuppressedExceptions_b6_14 Fbacktrace_b6_16 FdetailMessage_b6_15 A6_10 Un6_11 Th_9 rr hl gn_b6) hZ (hw _ (List.mem_of_getElem? (i := 18) rfl)) (hw _ (List.mem_of_getElem? (i := 7) rfl)) (by decide) (by decide) hTK2 hBelow2) (g := (mkF m 96 #[.val (.int s_), .val (.int k_), .val (.int md), .val (.int ii), .val (.int jj), .val (.int mm), .val (.int stv), .unset, .unset] [(.ref sR), (.int stv), (.ref b6), (.ref b6)])) rfl (by rw [hml]; rfl) (Steps.refl _) (a := b6) (argsL := [(.int stv), (.ref sR)]) (rest := [(.ref b6)]) (lenOf pd0_1 rfl) rfl (by show 2 * 0 + _ ≤ _; exact Nat.le_of_eq rfl) (hb hby at_96) (fun _ _ => ⟨rfl, e8, (by decide : 3 + 1 ≤ _), (by decide : 16 + 2752 ≤ _)⟩)
  dsimp only [Pt.U, Pt.locs, Pt.cells, Pt.slots] at X20 lq20 yq20 zq20 st20 hQ20
  subst lq20 yq20 zq20
  obtain ⟨rfl, Nq20, K20, Fs20⟩ := hQ20
  have A6_22 := (A6_10.keep K20)
  have ZS20 : n0 ≤ T20.heap.size := Nat.le_trans ZS8 K20.1
  have KC20 : Keep h0 T20.heap [] := KC8.trans K20 (allS (Or.inr sz_b6) all0)
  have Od20 := Od8.keep K20 (allS gn_b6 all0)
  have N20 := Fr.app N5 Nq20
  refine OGo.steps st20 ?_
  show OGo p e below _ (T20.setTop (mkF m 99 #[.val (.int s_), .val (.int k_), .val (.int md), .val (.int ii), .val (.int jj), .val (.int mm), .val (.int stv), .unset, .unset] [(.ref b6)]))
  have hk2 : k1_ ≤ T20.heap.size := Nat.le_trans hk1 K20.1
  refine OGo.step (fun uK kK => XS.astore X20.here hx rfl (hb hby at_99) rfl rfl (l' := #[.val (.int s_), .val (.int k_), .val (.int md), .val (.int ii), .val (.int jj), .val (.int mm), .val (.int stv), .val (.ref b6), .unset]) rfl kK) ?_
  show OGo p e below _ (T20.setTop (mkF m 101 #[.val (.int s_), .val (.int k_), .val (.int md), .val (.int ii), .val (.int jj), .val (.int mm), .val (.int stv), .val (.ref b6), .unset] []))
  refine OGo.step (fun uK kK => XS.aload X20.here hx rfl (hb hby at_101) rfl rfl kK) ?_
  show OGo p e below _ (T20.setTop (mkF m 103 #[.val (.int s_), .val (.int k_), .val (.int md), .val (.int ii), .val (.int jj), .val (.int mm), .val (.int stv), .val (.ref b6), .unset] [(.ref b6)]))
  refine OGo.step (fun uK kK => XS.iloadN X20.here hx rfl (hb hby at_103) rfl kK) ?_
  show OGo p e below _ (T20.setTop (mkF m 104 #[.val (.int s_), .val (.int k_), .val (.int md), .val (.int ii), .val (.int jj), .val (.int mm), .val (.int stv), .val (.ref b6), .unset] [(.int ii), (.ref b6)]))
  obtain ⟨_, _, ⟨T32, Lq32, kq_32, nq_32⟩, -, X32, ⟨Lc32, hQ32, lq32, yq32, zq32⟩, st32⟩ := Jvm.LawKit.callS X20 hx (y := (⟨"com/example/coxswain/coxswain/api/ControllerExceptionIsPinLaw", "constOf", "(I)Lcom/example/coxswain/coxswain/api/ApiStatus;"⟩ : MethodName)) hown (mvT hZ (hw _ (List.mem_of_getElem? (i := 82) rfl))) (mvT hZ (hw _ (List.mem_of_getElem? (i := 83) rfl))) (mvT hZ (hw _ (List.mem_of_getElem? (i := 3) rfl))) (mvT hZ (hw _ (List.mem_of_getElem? (i := 84) rfl))) (by decide) (backOf (W := 1) (rmcs l Z a0 hw [] ii a_OK a_BAD_REQUEST a_UNAUTHORIZED a_FORBIDDEN a_NOT_FOUND a_METHOD_NOT_ALLOWED a_CONFLICT a_PAYLOAD_TOO_LARGE a_MISDIRECTED a_INTERNAL_ERROR a_UNAVAILABLE T20.heap n0 ZS20 H_OK H_BAD_REQUEST H_UNAUTHORIZED H_FORBIDDEN H_NOT_FOUND H_METHOD_NOT_ALLOWED H_CONFLICT H_PAYLOAD_TOO_LARGE H_MISDIRECTED H_INTERNAL_ERROR H_UNAVAILABLE Od20) hZ (hw _ (List.mem_of_getElem? (i := 84) rfl)) (hw _ (List.mem_of_getElem? (i := 3) rfl)) (by decide) (by decide)) (g := (mkF m 104 #[.val (.int s_), .val (.int k_), .val (.int md), .val (.int ii), .val (.int jj), .val (.int mm), .val (.int stv), .val (.ref b6), .unset] [(.int ii), (.ref b6)])) rfl (by rw [hml]; rfl) (argsL := [(.int ii)]) (rest := [(.ref b6)]) (lenOf pd0_2 rfl) rfl (by show 2 * 0 + _ ≤ _; exact Nat.le_of_eq rfl) (hb hby at_104) (fun _ _ => ⟨rfl, rfl, (by decide : 4 + 0 ≤ _), (by decide : 2768 + 0 ≤ _)⟩)
  dsimp only [Pt.U, Pt.locs, Pt.cells, Pt.slots] at X32 lq32 yq32 zq32 st32 hQ32
  subst lq32 yq32 zq32
  obtain ⟨r_, rfl, Nq32, e32, Er, Fc⟩ := hQ32
  have N32 := Fr.app N20 Nq32
  refine OGo.step (fun uK kK => st32 uK kK) ?_
  show OGo p e below _ (T32.setTop (mkF m 107 #[.val (.int s_), .val (.int k_), .val (.int md), .val (.int ii), .val (.int jj), .val (.int mm), .val (.int stv), .val (.ref b6), .unset] [(.ref r_), (.ref b6)]))
  obtain ⟨cq33, kq33, q33a, q33b, q33c⟩ := isOf hZ e32 A6_22
  obtain ⟨_, _, ⟨T33, Lq33, kq_33, nq_33⟩, -, X33, ⟨Lc33, hQ33, lq33, yq33, zq33⟩, st33⟩ := X32.virtualBack hx (y := (⟨"com/example/coxswain/coxswain/api/ControllerException", "is", "(Lcom/example/coxswain/coxswain/api/ApiStatus;)Z"⟩ : MethodName)) (z := (⟨"com/example/coxswain/coxswain/api/ControllerException", "is", "(Lcom/example/coxswain/coxswain/api/ApiStatus;)Z"⟩ : MethodName)) hown (mvT hZ (hw _ (List.mem_of_getElem? (i := 88) rfl))) (mvT hZ (hw _ (List.mem_of_getElem? (i := 89) rfl))) (notFace_of_selects (args := #[]) (mvT hZ (hw _ (List.mem_of_getElem? (i := 91) rfl)))) (mvT hZ (hw _ (List.mem_of_getElem? (i := 91) rfl))) (mvT hZ (hw _ (List.mem_of_getElem? (i := 90) rfl))) (by decide) (backOf (W := 0) (rmis l Z a0 hw [] b6 r_ stv (cof ii) T20.heap n0 ZS20 Fs20 Er Fc) hZ (hw _ (List.mem_of_getElem? (i := 92) rfl)) (hw _ (List.mem_of_getElem? (i := 7) rfl)) (by decide) (by decide)) q33a q33c (g := (mkF m 107 #[.val (.int s_), .val (.int k_), .val (.int md), .val (.int ii), .val (.int jj), .val (.int mm), .val (.int stv), .val (.ref b6), .unset] [(.ref r_), (.ref b6)])) rfl (by rw [hml]; rfl) (Steps.refl _) (argsL := [(.ref r_)]) (rest := []) (lenOf pd0_3 rfl) rfl (by show 2 * 0 + _ ≤ _; exact Nat.le_of_eq rfl) (hb hby at_107) (fun _ _ => ⟨rfl, e32, (by decide : 4 + 0 ≤ _), (by decide : 2768 + 0 ≤ _)⟩)
  dsimp only [Pt.U, Pt.locs, Pt.cells, Pt.slots] at X33 lq33 yq33 zq33 st33 hQ33
  subst lq33 yq33 zq33
  obtain ⟨rfl, Nq33, e33⟩ := hQ33
  have N33 := Fr.app N32 Nq33
  refine OGo.steps st33 ?_
  show OGo p e below _ (T33.setTop (mkF m 110 #[.val (.int s_), .val (.int k_), .val (.int md), .val (.int ii), .val (.int jj), .val (.int mm), .val (.int stv), .val (.ref b6), .unset] [(.int (nar .boolean (if stv = (cof ii) then (1 : Int32) else (0 : Int32))))]))
  obtain ⟨got, ev_got⟩ : ∃ z : Int32, z = (nar .boolean (if stv = (cof ii) then (1 : Int32) else (0 : Int32))) := ⟨_, rfl⟩
  rw [← ev_got]
  show OGo p e below _ (T33.setTop (mkF m 110 #[.val (.int s_), .val (.int k_), .val (.int md), .val (.int ii), .val (.int jj), .val (.int mm), .val (.int stv), .val (.ref b6), .unset] [(.int got)]))
  refine OGo.step (fun uK kK => XS.istore X33.here hx rfl (hb hby at_110) rfl (l' := #[.val (.int s_), .val (.int k_), .val (.int md), .val (.int ii), .val (.int jj), .val (.int mm), .val (.int stv), .val (.ref b6), .val (.int got)]) rfl kK) ?_
  show OGo p e below _ (T33.setTop (mkF m 112 #[.val (.int s_), .val (.int k_), .val (.int md), .val (.int ii), .val (.int jj), .val (.int mm), .val (.int stv), .val (.ref b6), .val (.int got)] []))
  refine OGo.step (fun uK kK => XS.iload X33.here hx rfl (hb hby at_112) rfl kK) ?_
  show OGo p e below _ (T33.setTop (mkF m 114 #[.val (.int s_), .val (.int k_), .val (.int md), .val (.int ii), .val (.int jj), .val (.int mm), .val (.int stv), .val (.ref b6), .val (.int got)] [(.int got)]))
  refine OGo.step (fun uK kK => XS.iload X33.here hx rfl (hb hby at_114) rfl kK) ?_
  show OGo p e below _ (T33.setTop (mkF m 116 #[.val (.int s_), .val (.int k_), .val (.int md), .val (.int ii), .val (.int jj), .val (.int mm), .val (.int stv), .val (.ref b6), .val (.int got)] [(.int stv), (.int got)]))
  refine OGo.step (fun uK kK => XS.iloadN X33.here hx rfl (hb hby at_116) rfl kK) ?_
  show OGo p e below _ (T33.setTop (mkF m 117 #[.val (.int s_), .val (.int k_), .val (.int md), .val (.int ii), .val (.int jj), .val (.int mm), .val (.int stv), .val (.ref b6), .val (.int got)] [(.int ii), (.int stv), (.int got)]))
  obtain ⟨_, _, ⟨T34, Lq34, kq_34, nq_34⟩, -, X34, ⟨Lc34, hQ34, lq34, yq34, zq34⟩, st34⟩ := Jvm.LawKit.callS X33 hx (y := (⟨"com/example/coxswain/coxswain/api/ControllerExceptionIsPinLaw", "codeOf", "(I)I"⟩ : MethodName)) hown (mvT hZ (hw _ (List.mem_of_getElem? (i := 1) rfl))) (mvT hZ (hw _ (List.mem_of_getElem? (i := 2) rfl))) (mvT hZ (hw _ (List.mem_of_getElem? (i := 3) rfl))) (mvT hZ (hw _ (List.mem_of_getElem? (i := 4) rfl))) (by decide) (backOf (W := 2) (rmco l Z a0 hw [] ii  T20.heap n0 ZS20 ) hZ (hw _ (List.mem_of_getElem? (i := 4) rfl)) (hw _ (List.mem_of_getElem? (i := 3) rfl)) (by decide) (by decide)) (g := (mkF m 117 #[.val (.int s_), .val (.int k_), .val (.int md), .val (.int ii), .val (.int jj), .val (.int mm), .val (.int stv), .val (.ref b6), .val (.int got)] [(.int ii), (.int stv), (.int got)])) rfl (by rw [hml]; rfl) (argsL := [(.int ii)]) (rest := [(.int stv), (.int got)]) (lenOf pd0_0 rfl) rfl (by show 2 * 0 + _ ≤ _; exact Nat.le_of_eq rfl) (hb hby at_117) (fun _ _ => ⟨rfl, e33, (by decide : 4 + 0 ≤ _), (by decide : 2768 + 0 ≤ _)⟩)
  dsimp only [Pt.U, Pt.locs, Pt.cells, Pt.slots] at X34 lq34 yq34 zq34 st34 hQ34
  subst lq34 yq34 zq34
  obtain ⟨rfl, Nq34, e34⟩ := hQ34
  have N34 := Fr.app N33 Nq34
  refine OGo.step (fun uK kK => st34 uK kK) ?_
  show OGo p e below _ (T34.setTop (mkF m 120 #[.val (.int s_), .val (.int k_), .val (.int md), .val (.int ii), .val (.int jj), .val (.int mm), .val (.int stv), .val (.ref b6), .val (.int got)] [(.int (cof ii)), (.int stv), (.int got)]))
  refine OGo.step (t' := T34.setTop (mkF m 128 #[.val (.int s_), .val (.int k_), .val (.int md), .val (.int ii), .val (.int jj), .val (.int mm), .val (.int stv), .val (.ref b6), .val (.int got)] [(.int (if stv = (cof ii) then (1 : Int32) else (0 : Int32))), (.int got)])) (fun uK kK => ?_) ?_
  · show Steps p.tables e below (T34.setTop (mkF m 120 #[.val (.int s_), .val (.int k_), .val (.int md), .val (.int ii), .val (.int jj), .val (.int mm), .val (.int stv), .val (.ref b6), .val (.int got)] [(.int (cof ii)), (.int stv), (.int got)])) _
    by_cases hm120_35 : stv = (cof ii)
    · try rw [if_pos hm120_35] at kK
      refine XS.icmpNo X34.here hx rfl (hb hby at_120) rfl (teq hm120_35).2 ?_
      refine XS.iconst X34.here hx rfl (hb hby at_123) ?_
      show Steps p.tables e below (T34.setTop (mkF m 124 #[.val (.int s_), .val (.int k_), .val (.int md), .val (.int ii), .val (.int jj), .val (.int mm), .val (.int stv), .val (.ref b6), .val (.int got)] [(.int (1 : Int32)), (.int got)])) _
      refine XS.goto X34.here hx rfl (pc0 := 124) (pc' := 128) rfl (hb hby at_124) (by decide) (by decide) ?_
      show Steps p.tables e below (T34.setTop (mkF m 128 #[.val (.int s_), .val (.int k_), .val (.int md), .val (.int ii), .val (.int jj), .val (.int mm), .val (.int stv), .val (.ref b6), .val (.int got)] [(.int (1 : Int32)), (.int got)])) _
      exact kK
    · try rw [if_neg hm120_35] at kK
      refine XS.icmpYes X34.here hx rfl (pc0 := 120) (pc' := 127) rfl (hb hby at_120) rfl (feq hm120_35).2 (by decide) (by decide) ?_
      refine XS.iconst X34.here hx rfl (hb hby at_127) ?_
      show Steps p.tables e below (T34.setTop (mkF m 128 #[.val (.int s_), .val (.int k_), .val (.int md), .val (.int ii), .val (.int jj), .val (.int mm), .val (.int stv), .val (.ref b6), .val (.int got)] [(.int (0 : Int32)), (.int got)])) _
      exact kK
  show OGo p e below _ (T34.setTop (mkF m 128 #[.val (.int s_), .val (.int k_), .val (.int md), .val (.int ii), .val (.int jj), .val (.int mm), .val (.int stv), .val (.ref b6), .val (.int got)] [(.int (if stv = (cof ii) then (1 : Int32) else (0 : Int32))), (.int got)]))
  have hc128 : got = (if stv = (cof ii) then (1 : Int32) else (0 : Int32)) := by rw [ev_got, own_nb]
  refine OGo.step (fun uK kK => XS.icmpNo X34.here hx rfl (hb hby at_128) rfl (teq hc128).2 kK) ?_
  show OGo p e below _ (T34.setTop (mkF m 131 #[.val (.int s_), .val (.int k_), .val (.int md), .val (.int ii), .val (.int jj), .val (.int mm), .val (.int stv), .val (.ref b6), .val (.int got)] []))
  refine OGo.step (fun uK kK => XS.iconst X34.here hx rfl (hb hby at_131) kK) ?_
  show OGo p e below _ (T34.setTop (mkF m 132 #[.val (.int s_), .val (.int k_), .val (.int md), .val (.int ii), .val (.int jj), .val (.int mm), .val (.int stv), .val (.ref b6), .val (.int got)] [(.int (1 : Int32))]))
  refine OGo.step (fun uK kK => XS.goto X34.here hx rfl (pc0 := 132) (pc' := 136) rfl (hb hby at_132) (by decide) (by decide) kK) ?_
  show OGo p e below _ (T34.setTop (mkF m 136 #[.val (.int s_), .val (.int k_), .val (.int md), .val (.int ii), .val (.int jj), .val (.int mm), .val (.int stv), .val (.ref b6), .val (.int got)] [(.int (1 : Int32))]))
  exact OGo.retNW X34 hx Bd.notSynchronized hS1 (by rw [e34]; exact hk2) (t := .boolean) Bd.returns (by simp) (hb hby at_136) (by decide) (by decide) (by show Q0 Z s_ k_ md a_OK a_BAD_REQUEST a_UNAUTHORIZED a_FORBIDDEN a_NOT_FOUND a_METHOD_NOT_ALLOWED a_CONFLICT a_PAYLOAD_TOO_LARGE a_MISDIRECTED a_INTERNAL_ERROR a_UNAVAILABLE h0 n0 _ T34.heap _; rw [e34]; exact ⟨rfl, N34⟩)
set_option maxRecDepth 65536 in
set_option maxHeartbeats 40000000 in
theorem comes_1 {Post : Tables → Env → Array Value → State → Outcome → State → Prop} (hpost : ∀ tb e args s v u, (limb_1_1.after args s (.returned v) u = true ∧ limb_1_2.after args s (.returned v) u = true ∧ True) → FramedW s (.returned v) u (Jvm.fieldLocs frame_1_writes args s ++ Jvm.arrayLocs frame_1_arrays args s ++ Jvm.staticLocs frame_1_statics s) 16 6656 → Post tb e args s (.returned v) u) :
    ArmFor flags0 classFile x code maxLocals ret World_1 tables_1 room_1 Calls_1 rest_1 Pre_1 Post := by
  intro l hfl _ _ p e ha hc hk s m args below hf hA hF happ hP
  obtain ⟨hcalls, hrest, hpre⟩ := hP
  obtain ⟨-, -, -, hnamed, -, -, -, hat⟩ := (Spec.applies_iff hf).mp happ
  obtain ⟨hg, hn⟩ := and_e (Cond.before_iff.mp (show (Jvm.Cond.and given_1 narrow_1).before args s = true from hpre))
  obtain ⟨hcount, hg0⟩ := and_e hg
  obtain ⟨ga0, hg1⟩ := and_e hg0
  obtain ⟨ga1, hg2⟩ := and_e hg1
  have ga2 := hg2
  obtain ⟨w0, w1, w2, rfl⟩ : ∃ w0 w1 w2 : Value, args = #[w0, w1, w2] := by
    have hs : args.size = 3 := by simpa [Cond.value, given_1] using hcount
    obtain ⟨L⟩ := args
    match L, hs with
    | [w0, w1, w2], _ => exact ⟨w0, w1, w2, rfl⟩
  have hw := fun d (hd : d ∈ tables_1) => atoms_spec (ws := Jvm.Cond.code x code maxLocals ret :: tables_1) hat d (List.mem_cons_of_mem _ hd)
  have hfit : Fit s := fun {y c} hc i hi => by
    obtain ⟨ha, rfl⟩ := Array.getElem?_eq_some_iff.mp hc
    have q := List.all_eq_true.mp ((Array.all_eq_true_iff_forall_mem.mp hF) _ (Array.getElem_mem ha)) i (List.mem_range.mpr hi)
    simpa [Array.getElem?_eq_getElem hi] using q
  obtain ⟨hsets, hown0⟩ := atoms_of _ (rest_1_c_eq ▸ (show rest_1_c.before _ s = true from hrest))
  obtain ⟨i0, ei0⟩ := is_v ga0
  obtain rfl : w0 = (.int i0) := Option.some.inj ei0
  obtain ⟨i1, ei1⟩ := is_v ga1
  obtain rfl : w1 = (.int i1) := Option.some.inj ei1
  obtain ⟨i2, ei2⟩ := is_v ga2
  obtain rfl : w2 = (.int i2) := Option.some.inj ei2
  obtain ⟨nc0, ncr0⟩ := and_e hn
  obtain ⟨nc1, ncr1⟩ := and_e ncr0
  obtain ⟨nc2, ncr2⟩ := and_e ncr1
  obtain ⟨nc3, ncr3⟩ := and_e ncr2
  obtain ⟨nc4, ncr4⟩ := and_e ncr3
  obtain ⟨nc5, ncr5⟩ := and_e ncr4
  obtain ⟨nc6, ncr6⟩ := and_e ncr5
  obtain ⟨nc7, ncr7⟩ := and_e ncr6
  obtain ⟨nc8, ncr8⟩ := and_e ncr7
  obtain ⟨nc9, ncr9⟩ := and_e ncr8
  obtain ⟨nc10, ncr10⟩ := and_e ncr9
  obtain ⟨nc11, ncr11⟩ := and_e ncr10
  obtain ⟨nc12, ncr12⟩ := and_e ncr11
  obtain ⟨nc13, ncr13⟩ := and_e ncr12
  obtain ⟨nc14, ncr14⟩ := and_e ncr13
  obtain ⟨nc15, ncr15⟩ := and_e ncr14
  obtain ⟨nc16, ncr16⟩ := and_e ncr15
  obtain ⟨nc17, ncr17⟩ := and_e ncr16
  obtain ⟨nc18, ncr18⟩ := and_e ncr17
  obtain ⟨nc19, ncr19⟩ := and_e ncr18
  obtain ⟨nc20, ncr20⟩ := and_e ncr19
  have nc21 := ncr20
  obtain ⟨a_OK, ev_OK⟩ := exa_v nc8
  have H_OK : En s s.heap "OK" 200 a_OK := ⟨Sta.start ev_OK (Or.inr ⟨(hw _ (List.mem_of_getElem? (i := 86) rfl)), (hw _ (List.mem_of_getElem? (i := 107) rfl))⟩), Exa.start ev_OK nc8, Fld.start ((fld_at ev_OK).symm.trans (own_eqI nc9 rfl))⟩
  obtain ⟨a_BAD_REQUEST, ev_BAD_REQUEST⟩ := exa_v nc2
  have H_BAD_REQUEST : En s s.heap "BAD_REQUEST" 400 a_BAD_REQUEST := ⟨Sta.start ev_BAD_REQUEST (Or.inr ⟨(hw _ (List.mem_of_getElem? (i := 86) rfl)), (hw _ (List.mem_of_getElem? (i := 101) rfl))⟩), Exa.start ev_BAD_REQUEST nc2, Fld.start ((fld_at ev_BAD_REQUEST).symm.trans (own_eqI nc3 rfl))⟩
  obtain ⟨a_UNAUTHORIZED, ev_UNAUTHORIZED⟩ := exa_v nc14
  have H_UNAUTHORIZED : En s s.heap "UNAUTHORIZED" 401 a_UNAUTHORIZED := ⟨Sta.start ev_UNAUTHORIZED (Or.inr ⟨(hw _ (List.mem_of_getElem? (i := 86) rfl)), (hw _ (List.mem_of_getElem? (i := 113) rfl))⟩), Exa.start ev_UNAUTHORIZED nc14, Fld.start ((fld_at ev_UNAUTHORIZED).symm.trans (own_eqI nc15 rfl))⟩
  obtain ⟨a_FORBIDDEN, ev_FORBIDDEN⟩ := exa_v nc0
  have H_FORBIDDEN : En s s.heap "FORBIDDEN" 403 a_FORBIDDEN := ⟨Sta.start ev_FORBIDDEN (Or.inr ⟨(hw _ (List.mem_of_getElem? (i := 86) rfl)), (hw _ (List.mem_of_getElem? (i := 87) rfl))⟩), Exa.start ev_FORBIDDEN nc0, Fld.start ((fld_at ev_FORBIDDEN).symm.trans (own_eqI nc1 rfl))⟩
  obtain ⟨a_NOT_FOUND, ev_NOT_FOUND⟩ := exa_v nc20
  have H_NOT_FOUND : En s s.heap "NOT_FOUND" 404 a_NOT_FOUND := ⟨Sta.start ev_NOT_FOUND (Or.inr ⟨(hw _ (List.mem_of_getElem? (i := 86) rfl)), (hw _ (List.mem_of_getElem? (i := 119) rfl))⟩), Exa.start ev_NOT_FOUND nc20, Fld.start ((fld_at ev_NOT_FOUND).symm.trans (own_eqI nc21 rfl))⟩
  obtain ⟨a_METHOD_NOT_ALLOWED, ev_METHOD_NOT_ALLOWED⟩ := exa_v nc12
  have H_METHOD_NOT_ALLOWED : En s s.heap "METHOD_NOT_ALLOWED" 405 a_METHOD_NOT_ALLOWED := ⟨Sta.start ev_METHOD_NOT_ALLOWED (Or.inr ⟨(hw _ (List.mem_of_getElem? (i := 86) rfl)), (hw _ (List.mem_of_getElem? (i := 111) rfl))⟩), Exa.start ev_METHOD_NOT_ALLOWED nc12, Fld.start ((fld_at ev_METHOD_NOT_ALLOWED).symm.trans (own_eqI nc13 rfl))⟩
  obtain ⟨a_CONFLICT, ev_CONFLICT⟩ := exa_v nc16
  have H_CONFLICT : En s s.heap "CONFLICT" 409 a_CONFLICT := ⟨Sta.start ev_CONFLICT (Or.inr ⟨(hw _ (List.mem_of_getElem? (i := 86) rfl)), (hw _ (List.mem_of_getElem? (i := 115) rfl))⟩), Exa.start ev_CONFLICT nc16, Fld.start ((fld_at ev_CONFLICT).symm.trans (own_eqI nc17 rfl))⟩
  obtain ⟨a_PAYLOAD_TOO_LARGE, ev_PAYLOAD_TOO_LARGE⟩ := exa_v nc10
  have H_PAYLOAD_TOO_LARGE : En s s.heap "PAYLOAD_TOO_LARGE" 413 a_PAYLOAD_TOO_LARGE := ⟨Sta.start ev_PAYLOAD_TOO_LARGE (Or.inr ⟨(hw _ (List.mem_of_getElem? (i := 86) rfl)), (hw _ (List.mem_of_getElem? (i := 109) rfl))⟩), Exa.start ev_PAYLOAD_TOO_LARGE nc10, Fld.start ((fld_at ev_PAYLOAD_TOO_LARGE).symm.trans (own_eqI nc11 rfl))⟩
  obtain ⟨a_MISDIRECTED, ev_MISDIRECTED⟩ := exa_v nc4
  have H_MISDIRECTED : En s s.heap "MISDIRECTED" 421 a_MISDIRECTED := ⟨Sta.start ev_MISDIRECTED (Or.inr ⟨(hw _ (List.mem_of_getElem? (i := 86) rfl)), (hw _ (List.mem_of_getElem? (i := 103) rfl))⟩), Exa.start ev_MISDIRECTED nc4, Fld.start ((fld_at ev_MISDIRECTED).symm.trans (own_eqI nc5 rfl))⟩
  obtain ⟨a_INTERNAL_ERROR, ev_INTERNAL_ERROR⟩ := exa_v nc18
  have H_INTERNAL_ERROR : En s s.heap "INTERNAL_ERROR" 500 a_INTERNAL_ERROR := ⟨Sta.start ev_INTERNAL_ERROR (Or.inr ⟨(hw _ (List.mem_of_getElem? (i := 86) rfl)), (hw _ (List.mem_of_getElem? (i := 117) rfl))⟩), Exa.start ev_INTERNAL_ERROR nc18, Fld.start ((fld_at ev_INTERNAL_ERROR).symm.trans (own_eqI nc19 rfl))⟩
  obtain ⟨a_UNAVAILABLE, ev_UNAVAILABLE⟩ := exa_v nc6
  have H_UNAVAILABLE : En s s.heap "UNAVAILABLE" 503 a_UNAVAILABLE := ⟨Sta.start ev_UNAVAILABLE (Or.inr ⟨(hw _ (List.mem_of_getElem? (i := 86) rfl)), (hw _ (List.mem_of_getElem? (i := 105) rfl))⟩), Exa.start ev_UNAVAILABLE nc6, Fld.start ((fld_at ev_UNAVAILABLE).symm.trans (own_eqI nc7 rfl))⟩
  have rr := two_refs hfit (hw _ (List.mem_of_getElem? (i := 70) rfl)) (hw _ (List.mem_of_getElem? (i := 71) rfl))
  obtain ⟨n, o, h1, h2, h3, _, L, rfl, ⟨rfl, N⟩, hq⟩ := rm0 l s _ hw tables_1 i0 i1 i2 a_OK a_BAD_REQUEST a_UNAUTHORIZED a_FORBIDDEN a_NOT_FOUND a_METHOD_NOT_ALLOWED a_CONFLICT a_PAYLOAD_TOO_LARGE a_MISDIRECTED a_INTERNAL_ERROR a_UNAVAILABLE s.heap s.heap.size (Nat.le_refl _) H_OK H_BAD_REQUEST H_UNAUTHORIZED H_FORBIDDEN H_NOT_FOUND H_METHOD_NOT_ALLOWED H_CONFLICT H_PAYLOAD_TOO_LARGE H_MISDIRECTED H_INTERNAL_ERROR H_UNAVAILABLE (Old.start s) ThS.start rr (by unfold Launch.stackTraces; rw [hfl]; decide) p e ha hc hk s m _ below hf ((Spec.applies_iff_loose hf).mp happ).1 ⟨rfl, State.Warmed39.refl s, rfl⟩ ⟨hcalls.1, hcalls.2.1⟩
  refine ⟨n, _, h1, h2, h3, hpost _ _ _ _ _ _ ⟨Cond.after_iff.mpr rfl, Cond.after_iff.mpr (eq_i res_at (Term.int_eval (1)) rfl), trivial⟩ ⟨hq.1, hq.2.1, hq.2.2.1, (hq.2.2.2.sift fun y hy => Or.inr (N y hy)).mono (by decide) (by decide)⟩⟩
theorem main_1_1 : Claimed_1_1 := comes_1 fun _ _ _ _ _ _ h hF => ⟨h.1, hF⟩
theorem main_1_2 : Claimed_1_2 := comes_1 fun _ _ _ _ _ _ h hF => ⟨h.2.1, hF⟩
end Jvm.Pilot.@@N@@
namespace Jvm.Pilot.@@N@@
open Jvm Jvm.ClassFile Sem Op Lib Jvm.Free Jvm.Stand Jvm.Pilot.@@N@@.Jvm.D
/-! MADE BY PROGRAM (witnessworld.py) out of the Statement's table words and the real class files: 32 classes; the members and pool entries that the words name. The judged class is class 1, her method 3. -/
namespace start1
open Jvm.ClassFile
def u (s : String) : CpInfo := .utf8 (stringToUtf16 s)
/-- a pool by its gaps: so many unusable entries, then the entry; so many at the end -/
def gap : Nat → List CpInfo → List CpInfo
  | 0, r => r
  | n + 1, r => .unusable :: gap n r
def poolList (es : List (Nat × CpInfo)) (last : Nat) : List CpInfo := es.foldr (fun e r => gap e.1 (e.2 :: r)) (gap last [])
def pool (es : List (Nat × CpInfo)) (last : Nat) : Array CpInfo := ⟨poolList es last⟩
def fileOf (pool : Array CpInfo) (this : Nat) (attrs : Array Attribute := #[]) (ms : Array MethodInfo := #[]) (fl : Nat := 33) (sup : Nat := 0) (ifs : Array Nat := #[]) (fds : Array FieldInfo := #[]) : ClassFile where
  minorVersion := 0
  majorVersion := 65
  constantPool := pool
  accessFlags := fl
  thisClass := this
  superClass := sup
  interfaces := ifs
  fields := fds
  methods := ms
  attributes := attrs
def plain (name : String) (sup : Option ClassId) : Class where
  name := name
  kind := .ordinary
  loader := none
  accessFlags := 33
  super := sup
  interfaces := #[]
  cf := none
  fields := #[]
  methods := #[]
  instanceTypes := #[]
  staticTypes := #[]
  resolved := #[]
  callSites := []
  init := .initialized
  statics := none
  mirror := none

def pool0 : Array CpInfo := pool [(5, u "<init>"), (0, u "()V"), (1, .class_ 10), (1, u "java/lang/Object")] 113

def k0c0 : Code := { maxStack := 0, maxLocals := 1, code := object_method_1_code, exceptionTable := #[], attributes := #[] }
def k0m0 : Method := { name := "<init>", desc := "()V", sig := { parameters := [], returnType := none }, accessFlags := 1, code := some k0c0 }
/-- java/lang/Object -/
def k0 : Class := { plain "java/lang/Object" none with
  accessFlags := 33
  interfaces := #[]
  cf := some (fileOf pool0 8 #[] #[{ accessFlags := 1, nameIndex := 5, descriptorIndex := 6, attributes := #[] }] 33 0 #[] #[])
  fields := #[]
  methods := #[k0m0]
  instanceTypes := #[]
  staticTypes := #[]
  resolved := Array.replicate 124 none
  statics := none }

def pool1 : Array CpInfo := pool [(2, .class_ 4), (1, u "java/lang/Object"), (0, u "<init>"), (0, u "()V"), (0, .fieldref 8 9), (0, .class_ 10), (0, .nameAndType 11 12), (0, u "com/example/coxswain/coxswain/api/ApiStatus"), (0, u "OK"), (0, u "Lcom/example/coxswain/coxswain/api/ApiStatus;"), (0, .fieldref 8 14), (0, .nameAndType 15 12), (0, u "BAD_REQUEST"), (0, .fieldref 8 17), (0, .nameAndType 18 12), (0, u "UNAUTHORIZED"), (0, .fieldref 8 20), (0, .nameAndType 21 12), (0, u "FORBIDDEN"), (0, .fieldref 8 23), (0, .nameAndType 24 12), (0, u "NOT_FOUND"), (0, .fieldref 8 26), (0, .nameAndType 27 12), (0, u "METHOD_NOT_ALLOWED"), (0, .fieldref 8 29), (0, .nameAndType 30 12), (0, u "CONFLICT"), (0, .fieldref 8 32), (0, .nameAndType 33 12), (0, u "PAYLOAD_TOO_LARGE"), (0, .fieldref 8 35), (0, .nameAndType 36 12), (0, u "MISDIRECTED"), (0, .fieldref 8 38), (0, .nameAndType 39 12), (0, u "INTERNAL_ERROR"), (0, .fieldref 8 41), (0, .nameAndType 42 12), (0, u "UNAVAILABLE"), (0, .integer 2147483647), (0, .methodref 45 46), (0, .class_ 47), (0, .nameAndType 48 49), (0, u "com/example/coxswain/coxswain/api/ControllerExceptionIsPinLaw"), (0, u "codeOf"), (0, u "(I)I"), (0, .class_ 51), (0, u "com/example/coxswain/coxswain/api/ControllerException"), (0, .string 53), (0, u "r"), (0, .methodref 50 55), (0, .nameAndType 5 56), (0, u "(ILjava/lang/String;)V"), (0, .methodref 45 58), (0, .nameAndType 59 60), (0, u "constOf"), (0, u "(I)Lcom/example/coxswain/coxswain/api/ApiStatus;"), (0, .methodref 50 62), (0, .nameAndType 63 64), (0, u "is"), (0, u "(Lcom/example/coxswain/coxswain/api/ApiStatus;)Z"), (3, u "law"), (0, u "(III)Z")] 2

def k1m0 : Method := { name := "<init>", desc := "()V", sig := { parameters := [], returnType := none }, accessFlags := 1, code := none }
def k1c1 : Code := { maxStack := 2, maxLocals := 1, code := method_2_code, exceptionTable := #[], attributes := #[] }
def k1m1 : Method := { name := "constOf", desc := "(I)Lcom/example/coxswain/coxswain/api/ApiStatus;", sig := { parameters := [.int], returnType := some (.object "com/example/coxswain/coxswain/api/ApiStatus") }, accessFlags := 10, code := some k1c1 }
def k1c2 : Code := { maxStack := 2, maxLocals := 1, code := method_3_code, exceptionTable := #[], attributes := #[] }
def k1m2 : Method := { name := "codeOf", desc := "(I)I", sig := { parameters := [.int], returnType := some .int }, accessFlags := 10, code := some k1c2 }
def k1c3 : Code := { maxStack := 4, maxLocals := 9, code := code, exceptionTable := #[], attributes := #[] }
def k1m3 : Method := { name := "law", desc := "(III)Z", sig := { parameters := [.int, .int, .int], returnType := some .boolean }, accessFlags := 9, code := some k1c3 }
/-- com/example/coxswain/coxswain/api/ControllerExceptionIsPinLaw -/
def k1 : Class := { plain "com/example/coxswain/coxswain/api/ControllerExceptionIsPinLaw" (some 0) with
  accessFlags := 49
  interfaces := #[]
  cf := some (fileOf pool1 45 #[] #[{ accessFlags := 1, nameIndex := 5, descriptorIndex := 6, attributes := #[] }, { accessFlags := 10, nameIndex := 59, descriptorIndex := 60, attributes := #[] }, { accessFlags := 10, nameIndex := 48, descriptorIndex := 49, attributes := #[] }, { accessFlags := 9, nameIndex := 68, descriptorIndex := 69, attributes := #[] }] 49 2 #[] #[])
  fields := #[]
  methods := #[k1m0, k1m1, k1m2, k1m3]
  instanceTypes := #[]
  staticTypes := #[]
  resolved := Array.replicate 72 none
  statics := none }

def pool2 : Array CpInfo := pool [(1, .class_ 2), (0, u "java/io/Serializable"), (0, .class_ 4), (0, u "java/lang/Object")] 2

/-- java/io/Serializable -/
def k2 : Class := { plain "java/io/Serializable" (some 0) with
  accessFlags := 1537
  interfaces := #[]
  cf := some (fileOf pool2 1 #[] #[] 1537 3 #[] #[])
  fields := #[]
  methods := #[]
  instanceTypes := #[]
  staticTypes := #[]
  resolved := Array.replicate 7 none
  statics := none }

def pool3 : Array CpInfo := pool [(1, .methodref 2 3), (0, .class_ 4), (0, .nameAndType 5 6), (0, u "java/lang/Object"), (0, u "<init>"), (0, u "()V"), (0, .fieldref 8 9), (0, .class_ 10), (0, .nameAndType 11 12), (0, u "java/lang/Throwable"), (0, u "cause"), (0, u "Ljava/lang/Throwable;"), (0, .fieldref 8 14), (0, .nameAndType 15 16), (0, u "UNASSIGNED_STACK"), (0, u "[Ljava/lang/StackTraceElement;"), (0, .fieldref 8 18), (0, .nameAndType 19 16), (0, u "stackTrace"), (0, .fieldref 8 21), (0, .nameAndType 22 23), (0, u "SUPPRESSED_SENTINEL"), (0, u "Ljava/util/List;"), (0, .fieldref 8 25), (0, .nameAndType 26 23), (0, u "suppressedExceptions"), (0, .methodref 8 28), (0, .nameAndType 29 30), (0, u "fillInStackTrace"), (0, u "()Ljava/lang/Throwable;"), (0, .fieldref 8 32), (0, .nameAndType 33 34), (0, u "detailMessage"), (0, u "Ljava/lang/String;"), (58, .class_ 94), (0, u "java/lang/Throwable$WrappedPrintStream"), (6, .class_ 103), (1, u "java/lang/Throwable$PrintStreamOrWriter"), (61, u "$assertionsDisabled"), (0, u "Z"), (26, .class_ 194), (0, u "java/lang/Throwable$WrappedPrintWriter"), (3, .fieldref 8 199), (0, .nameAndType 200 201), (0, u "backtrace"), (0, u "Ljava/lang/Object;"), (0, .methodref 8 203), (0, .nameAndType 29 204), (0, u "(I)Ljava/lang/Throwable;"), (6, u "depth"), (0, u "I"), (10, u "(Ljava/lang/String;)V"), (45, .class_ 271), (1, u "java/lang/Throwable$SentinelHolder"), (32, u "EMPTY_THROWABLE_ARRAY"), (0, u "[Ljava/lang/Throwable;"), (12, .class_ 319), (0, u "java/io/Serializable"), (0, u "serialVersionUID"), (0, u "J"), (5, u "NULL_CAUSE_MESSAGE"), (0, u "SELF_SUPPRESSION_MESSAGE"), (0, u "CAUSE_CAPTION"), (0, u "SUPPRESSED_CAPTION")] 73

def k3c0 : Code := { maxStack := 2, maxLocals := 1, code := jdk_78_method_1_code, exceptionTable := #[], attributes := #[] }
def k3m0 : Method := { name := "<init>", desc := "()V", sig := { parameters := [], returnType := none }, accessFlags := 1, code := some k3c0 }
def k3c1 : Code := { maxStack := 2, maxLocals := 2, code := jdk_78_method_2_code, exceptionTable := #[], attributes := #[] }
def k3m1 : Method := { name := "<init>", desc := "(Ljava/lang/String;)V", sig := { parameters := [(.object "java/lang/String")], returnType := none }, accessFlags := 1, code := some k3c1 }
def k3c2 : Code := { maxStack := 2, maxLocals := 1, code := jdk_78_method_18_code, exceptionTable := #[], attributes := #[] }
def k3m2 : Method := { name := "fillInStackTrace", desc := "()Ljava/lang/Throwable;", sig := { parameters := [], returnType := some (.object "java/lang/Throwable") }, accessFlags := 33, code := some k3c2 }
def k3m3 : Method := { name := "fillInStackTrace", desc := "(I)Ljava/lang/Throwable;", sig := { parameters := [.int], returnType := some (.object "java/lang/Throwable") }, accessFlags := 258, code := none }
/-- java/lang/Throwable -/
def k3 : Class := { plain "java/lang/Throwable" (some 0) with
  accessFlags := 33
  interfaces := #[2]
  cf := some (fileOf pool3 8 #[.nestMembers #[193, 93, 101, 269]] #[{ accessFlags := 1, nameIndex := 5, descriptorIndex := 6, attributes := #[] }, { accessFlags := 1, nameIndex := 5, descriptorIndex := 223, attributes := #[] }, { accessFlags := 33, nameIndex := 29, descriptorIndex := 30, attributes := #[] }, { accessFlags := 258, nameIndex := 29, descriptorIndex := 204, attributes := #[] }] 33 2 #[318] #[{ accessFlags := 26, nameIndex := 320, descriptorIndex := 321, attributes := #[] }, { accessFlags := 130, nameIndex := 200, descriptorIndex := 201, attributes := #[] }, { accessFlags := 2, nameIndex := 33, descriptorIndex := 34, attributes := #[] }, { accessFlags := 26, nameIndex := 15, descriptorIndex := 16, attributes := #[] }, { accessFlags := 2, nameIndex := 11, descriptorIndex := 12, attributes := #[] }, { accessFlags := 2, nameIndex := 19, descriptorIndex := 16, attributes := #[] }, { accessFlags := 130, nameIndex := 211, descriptorIndex := 212, attributes := #[] }, { accessFlags := 26, nameIndex := 22, descriptorIndex := 23, attributes := #[] }, { accessFlags := 2, nameIndex := 26, descriptorIndex := 23, attributes := #[] }, { accessFlags := 26, nameIndex := 327, descriptorIndex := 34, attributes := #[] }, { accessFlags := 26, nameIndex := 328, descriptorIndex := 34, attributes := #[] }, { accessFlags := 26, nameIndex := 329, descriptorIndex := 34, attributes := #[] }, { accessFlags := 26, nameIndex := 330, descriptorIndex := 34, attributes := #[] }, { accessFlags := 26, nameIndex := 304, descriptorIndex := 305, attributes := #[] }, { accessFlags := 4120, nameIndex := 165, descriptorIndex := 166, attributes := #[] }])
  fields := #[{ name := "serialVersionUID", type := .long, accessFlags := 26, slot := 0, constantValue := 0 }, { name := "backtrace", type := (.object "java/lang/Object"), accessFlags := 130, slot := 0, constantValue := 0 }, { name := "detailMessage", type := (.object "java/lang/String"), accessFlags := 2, slot := 1, constantValue := 0 }, { name := "UNASSIGNED_STACK", type := (.array (.object "java/lang/StackTraceElement")), accessFlags := 26, slot := 1, constantValue := 0 }, { name := "cause", type := (.object "java/lang/Throwable"), accessFlags := 2, slot := 2, constantValue := 0 }, { name := "stackTrace", type := (.array (.object "java/lang/StackTraceElement")), accessFlags := 2, slot := 3, constantValue := 0 }, { name := "depth", type := .int, accessFlags := 130, slot := 4, constantValue := 0 }, { name := "SUPPRESSED_SENTINEL", type := (.object "java/util/List"), accessFlags := 26, slot := 2, constantValue := 0 }, { name := "suppressedExceptions", type := (.object "java/util/List"), accessFlags := 2, slot := 5, constantValue := 0 }, { name := "NULL_CAUSE_MESSAGE", type := (.object "java/lang/String"), accessFlags := 26, slot := 3, constantValue := 0 }, { name := "SELF_SUPPRESSION_MESSAGE", type := (.object "java/lang/String"), accessFlags := 26, slot := 4, constantValue := 0 }, { name := "CAUSE_CAPTION", type := (.object "java/lang/String"), accessFlags := 26, slot := 5, constantValue := 0 }, { name := "SUPPRESSED_CAPTION", type := (.object "java/lang/String"), accessFlags := 26, slot := 6, constantValue := 0 }, { name := "EMPTY_THROWABLE_ARRAY", type := (.array (.object "java/lang/Throwable")), accessFlags := 26, slot := 7, constantValue := 0 }, { name := "$assertionsDisabled", type := .boolean, accessFlags := 4120, slot := 8, constantValue := 0 }]
  methods := #[k3m0, k3m1, k3m2, k3m3]
  instanceTypes := #[(.object "java/lang/Object"), (.object "java/lang/String"), (.object "java/lang/Throwable"), (.array (.object "java/lang/StackTraceElement")), .int, (.object "java/util/List")]
  staticTypes := #[.long, (.array (.object "java/lang/StackTraceElement")), (.object "java/util/List"), (.object "java/lang/String"), (.object "java/lang/String"), (.object "java/lang/String"), (.object "java/lang/String"), (.array (.object "java/lang/Throwable")), .boolean]
  resolved := Array.replicate 404 none
  statics := some 0 }

def pool4 : Array CpInfo := pool [(2, .class_ 4), (1, u "java/lang/Throwable"), (0, u "<init>"), (0, u "()V"), (0, .methodref 2 8), (0, .nameAndType 5 9), (0, u "(Ljava/lang/String;)V"), (9, .class_ 20), (0, u "java/lang/Exception"), (0, u "serialVersionUID"), (0, u "J")] 17

def k4m0 : Method := { name := "<init>", desc := "()V", sig := { parameters := [], returnType := none }, accessFlags := 1, code := none }
def k4c1 : Code := { maxStack := 2, maxLocals := 2, code := jdk_59_method_2_code, exceptionTable := #[], attributes := #[] }
def k4m1 : Method := { name := "<init>", desc := "(Ljava/lang/String;)V", sig := { parameters := [(.object "java/lang/String")], returnType := none }, accessFlags := 1, code := some k4c1 }
/-- java/lang/Exception -/
def k4 : Class := { plain "java/lang/Exception" (some 3) with
  accessFlags := 33
  interfaces := #[]
  cf := some (fileOf pool4 19 #[] #[{ accessFlags := 1, nameIndex := 5, descriptorIndex := 6, attributes := #[] }, { accessFlags := 1, nameIndex := 5, descriptorIndex := 9, attributes := #[] }] 33 2 #[] #[{ accessFlags := 24, nameIndex := 21, descriptorIndex := 22, attributes := #[] }])
  fields := #[{ name := "serialVersionUID", type := .long, accessFlags := 24, slot := 0, constantValue := 0 }]
  methods := #[k4m0, k4m1]
  instanceTypes := #[(.object "java/lang/Object"), (.object "java/lang/String"), (.object "java/lang/Throwable"), (.array (.object "java/lang/StackTraceElement")), .int, (.object "java/util/List")]
  staticTypes := #[.long]
  resolved := Array.replicate 40 none
  statics := none }

def pool5 : Array CpInfo := pool [(2, .class_ 4), (1, u "java/lang/Exception"), (0, u "<init>"), (0, u "()V"), (0, .methodref 2 8), (0, .nameAndType 5 9), (0, u "(Ljava/lang/String;)V"), (6, .class_ 17), (0, u "java/io/IOException"), (0, u "serialVersionUID"), (0, u "J")] 14

def k5m0 : Method := { name := "<init>", desc := "()V", sig := { parameters := [], returnType := none }, accessFlags := 1, code := none }
def k5c1 : Code := { maxStack := 2, maxLocals := 2, code := jdk_131_method_2_code, exceptionTable := #[], attributes := #[] }
def k5m1 : Method := { name := "<init>", desc := "(Ljava/lang/String;)V", sig := { parameters := [(.object "java/lang/String")], returnType := none }, accessFlags := 1, code := some k5c1 }
/-- java/io/IOException -/
def k5 : Class := { plain "java/io/IOException" (some 4) with
  accessFlags := 33
  interfaces := #[]
  cf := some (fileOf pool5 16 #[] #[{ accessFlags := 1, nameIndex := 5, descriptorIndex := 6, attributes := #[] }, { accessFlags := 1, nameIndex := 5, descriptorIndex := 9, attributes := #[] }] 33 2 #[] #[{ accessFlags := 24, nameIndex := 18, descriptorIndex := 19, attributes := #[] }])
  fields := #[{ name := "serialVersionUID", type := .long, accessFlags := 24, slot := 0, constantValue := 0 }]
  methods := #[k5m0, k5m1]
  instanceTypes := #[(.object "java/lang/Object"), (.object "java/lang/String"), (.object "java/lang/Throwable"), (.array (.object "java/lang/StackTraceElement")), .int, (.object "java/util/List")]
  staticTypes := #[.long]
  resolved := Array.replicate 34 none
  statics := none }

def pool6 : Array CpInfo := pool [(1, .methodref 2 3), (0, .class_ 4), (0, .nameAndType 5 6), (0, u "com/example/coxswain/coxswain/api/ApiStatus"), (0, u "code"), (0, u "()I"), (0, .methodref 8 9), (0, .class_ 10), (0, .nameAndType 11 12), (0, u "com/example/coxswain/coxswain/api/ControllerException"), (0, u "<init>"), (0, u "(ILjava/lang/String;Ljava/time/Duration;)V"), (0, .methodref 14 15), (0, .class_ 16), (0, .nameAndType 11 17), (0, u "java/io/IOException"), (0, u "(Ljava/lang/String;)V"), (0, .fieldref 8 19), (0, .nameAndType 20 21), (0, u "status"), (0, u "I"), (0, .fieldref 8 23), (0, .nameAndType 24 25), (0, u "retryAfter"), (0, u "Ljava/time/Duration;"), (6, u "RETRY_AFTER"), (0, u "Ljava/lang/String;"), (3, u "serialVersionUID"), (0, u "J"), (6, u "(ILjava/lang/String;)V"), (0, u "is"), (0, u "(Lcom/example/coxswain/coxswain/api/ApiStatus;)Z")] 6

def k6c0 : Code := { maxStack := 4, maxLocals := 3, code := prog_5_method_3_code, exceptionTable := #[], attributes := #[] }
def k6m0 : Method := { name := "<init>", desc := "(ILjava/lang/String;)V", sig := { parameters := [.int, (.object "java/lang/String")], returnType := none }, accessFlags := 1, code := some k6c0 }
def k6c1 : Code := { maxStack := 2, maxLocals := 4, code := prog_5_method_4_code, exceptionTable := #[], attributes := #[] }
def k6m1 : Method := { name := "<init>", desc := "(ILjava/lang/String;Ljava/time/Duration;)V", sig := { parameters := [.int, (.object "java/lang/String"), (.object "java/time/Duration")], returnType := none }, accessFlags := 1, code := some k6c1 }
def k6c2 : Code := { maxStack := 2, maxLocals := 2, code := prog_5_method_6_code, exceptionTable := #[], attributes := #[] }
def k6m2 : Method := { name := "is", desc := "(Lcom/example/coxswain/coxswain/api/ApiStatus;)Z", sig := { parameters := [(.object "com/example/coxswain/coxswain/api/ApiStatus")], returnType := some .boolean }, accessFlags := 1, code := some k6c2 }
/-- com/example/coxswain/coxswain/api/ControllerException -/
def k6 : Class := { plain "com/example/coxswain/coxswain/api/ControllerException" (some 5) with
  accessFlags := 49
  interfaces := #[]
  cf := some (fileOf pool6 8 #[] #[{ accessFlags := 1, nameIndex := 11, descriptorIndex := 45, attributes := #[] }, { accessFlags := 1, nameIndex := 11, descriptorIndex := 12, attributes := #[] }, { accessFlags := 1, nameIndex := 46, descriptorIndex := 47, attributes := #[] }] 49 14 #[] #[{ accessFlags := 25, nameIndex := 32, descriptorIndex := 33, attributes := #[] }, { accessFlags := 26, nameIndex := 37, descriptorIndex := 38, attributes := #[] }, { accessFlags := 18, nameIndex := 20, descriptorIndex := 21, attributes := #[] }, { accessFlags := 18, nameIndex := 24, descriptorIndex := 25, attributes := #[] }])
  fields := #[{ name := "RETRY_AFTER", type := (.object "java/lang/String"), accessFlags := 25, slot := 0, constantValue := 0 }, { name := "serialVersionUID", type := .long, accessFlags := 26, slot := 1, constantValue := 0 }, { name := "status", type := .int, accessFlags := 18, slot := 6, constantValue := 0 }, { name := "retryAfter", type := (.object "java/time/Duration"), accessFlags := 18, slot := 7, constantValue := 0 }]
  methods := #[k6m0, k6m1, k6m2]
  instanceTypes := #[(.object "java/lang/Object"), (.object "java/lang/String"), (.object "java/lang/Throwable"), (.array (.object "java/lang/StackTraceElement")), .int, (.object "java/util/List"), .int, (.object "java/time/Duration")]
  staticTypes := #[(.object "java/lang/String"), .long]
  resolved := Array.replicate 54 none
  statics := none }

def pool7 : Array CpInfo := pool [(1, .class_ 2), (0, u "java/lang/Comparable"), (0, .class_ 4), (0, u "java/lang/Object")] 7

/-- java/lang/Comparable -/
def k7 : Class := { plain "java/lang/Comparable" (some 0) with
  accessFlags := 1537
  interfaces := #[]
  cf := some (fileOf pool7 1 #[] #[] 1537 3 #[] #[])
  fields := #[]
  methods := #[]
  instanceTypes := #[]
  staticTypes := #[]
  resolved := Array.replicate 12 none
  statics := none }

def pool8 : Array CpInfo := pool [(2, .class_ 4), (1, u "java/lang/CharSequence"), (42, .class_ 48), (0, u "java/lang/CharSequence$1CodePointIterator"), (10, .class_ 60), (0, u "java/lang/CharSequence$1CharIterator"), (5, .class_ 67), (0, u "java/lang/Object")] 63

/-- java/lang/CharSequence -/
def k8 : Class := { plain "java/lang/CharSequence" (some 0) with
  accessFlags := 1537
  interfaces := #[]
  cf := some (fileOf pool8 2 #[.nestMembers #[47, 59]] #[] 1537 66 #[] #[])
  fields := #[]
  methods := #[]
  instanceTypes := #[]
  staticTypes := #[]
  resolved := Array.replicate 131 none
  statics := none }

def pool9 : Array CpInfo := pool [(1, .class_ 2), (0, u "java/lang/constant/Constable"), (0, .class_ 4), (0, u "java/lang/Object")] 6

/-- java/lang/constant/Constable -/
def k9 : Class := { plain "java/lang/constant/Constable" (some 0) with
  accessFlags := 1537
  interfaces := #[]
  cf := some (fileOf pool9 1 #[] #[] 1537 3 #[] #[])
  fields := #[]
  methods := #[]
  instanceTypes := #[]
  staticTypes := #[]
  resolved := Array.replicate 11 none
  statics := none }

def pool10 : Array CpInfo := pool [(1, .class_ 2), (0, u "java/lang/constant/ConstantDesc"), (0, .class_ 4), (0, u "java/lang/Object")] 32

/-- java/lang/constant/ConstantDesc -/
def k10 : Class := { plain "java/lang/constant/ConstantDesc" (some 0) with
  accessFlags := 1537
  interfaces := #[]
  cf := some (fileOf pool10 1 #[] #[] 1537 3 #[] #[])
  fields := #[]
  methods := #[]
  instanceTypes := #[]
  staticTypes := #[]
  resolved := Array.replicate 37 none
  statics := none }

def pool11 : Array CpInfo := pool [(2, .class_ 4), (1, u "java/lang/Object"), (0, u "<init>"), (0, u "()V"), (3, .class_ 12), (1, u "java/lang/String"), (0, u "value"), (0, u "[B"), (2, u "coder"), (0, u "B"), (2, u "hash"), (0, u "I"), (2, u "hashIsZero"), (0, u "Z"), (13, u "COMPACT_STRINGS"), (534, .class_ 576), (0, u "java/lang/CharSequence"), (22, u "CASE_INSENSITIVE_ORDER"), (0, u "Ljava/util/Comparator;"), (500, u "serialPersistentFields"), (0, u "[Ljava/io/ObjectStreamField;"), (0, .class_ 1104), (0, u "java/lang/String$CaseInsensitiveComparator"), (1, .class_ 1107), (0, u "java/io/Serializable"), (0, .class_ 1109), (0, u "java/lang/Comparable"), (0, .class_ 1111), (0, u "java/lang/constant/Constable"), (0, .class_ 1113), (0, u "java/lang/constant/ConstantDesc"), (2, u "serialVersionUID"), (0, u "J"), (3, u "REPL"), (0, u "C"), (2, u "LATIN1"), (1, u "UTF16")] 323

def k11m0 : Method := { name := "<init>", desc := "()V", sig := { parameters := [], returnType := none }, accessFlags := 1, code := none }
/-- java/lang/String -/
def k11 : Class := { plain "java/lang/String" (some 0) with
  accessFlags := 49
  interfaces := #[2, 7, 8, 9, 10]
  cf := some (fileOf pool11 10 #[.nestMembers #[1103]] #[{ accessFlags := 1, nameIndex := 5, descriptorIndex := 6, attributes := #[] }] 49 2 #[1106, 1108, 575, 1110, 1112] #[{ accessFlags := 18, nameIndex := 13, descriptorIndex := 14, attributes := #[] }, { accessFlags := 18, nameIndex := 17, descriptorIndex := 18, attributes := #[] }, { accessFlags := 2, nameIndex := 21, descriptorIndex := 22, attributes := #[] }, { accessFlags := 2, nameIndex := 25, descriptorIndex := 26, attributes := #[] }, { accessFlags := 26, nameIndex := 1116, descriptorIndex := 1117, attributes := #[] }, { accessFlags := 24, nameIndex := 40, descriptorIndex := 26, attributes := #[] }, { accessFlags := 26, nameIndex := 1101, descriptorIndex := 1102, attributes := #[] }, { accessFlags := 26, nameIndex := 1121, descriptorIndex := 1122, attributes := #[] }, { accessFlags := 25, nameIndex := 599, descriptorIndex := 600, attributes := #[] }, { accessFlags := 24, nameIndex := 1125, descriptorIndex := 18, attributes := #[] }, { accessFlags := 24, nameIndex := 1127, descriptorIndex := 18, attributes := #[] }])
  fields := #[{ name := "value", type := (.array .byte), accessFlags := 18, slot := 0, constantValue := 0 }, { name := "coder", type := .byte, accessFlags := 18, slot := 1, constantValue := 0 }, { name := "hash", type := .int, accessFlags := 2, slot := 2, constantValue := 0 }, { name := "hashIsZero", type := .boolean, accessFlags := 2, slot := 3, constantValue := 0 }, { name := "serialVersionUID", type := .long, accessFlags := 26, slot := 0, constantValue := 0 }, { name := "COMPACT_STRINGS", type := .boolean, accessFlags := 24, slot := 1, constantValue := 0 }, { name := "serialPersistentFields", type := (.array (.object "java/io/ObjectStreamField")), accessFlags := 26, slot := 2, constantValue := 0 }, { name := "REPL", type := .char, accessFlags := 26, slot := 3, constantValue := 0 }, { name := "CASE_INSENSITIVE_ORDER", type := (.object "java/util/Comparator"), accessFlags := 25, slot := 4, constantValue := 0 }, { name := "LATIN1", type := .byte, accessFlags := 24, slot := 5, constantValue := 0 }, { name := "UTF16", type := .byte, accessFlags := 24, slot := 6, constantValue := 0 }]
  methods := #[k11m0]
  instanceTypes := #[(.array .byte), .byte, .int, .boolean]
  staticTypes := #[.long, .boolean, (.array (.object "java/io/ObjectStreamField")), .char, (.object "java/util/Comparator"), .byte, .byte]
  resolved := Array.replicate 1451 none
  statics := none }

def pool12 : Array CpInfo := pool [(2, .class_ 4), (1, u "java/lang/Enum"), (0, u "name"), (0, u "Ljava/lang/String;"), (2, u "ordinal"), (0, u "I"), (1, .class_ 14), (1, u "java/lang/Object"), (4, u "hash"), (86, .class_ 108), (1, u "java/lang/Enum$EnumDesc"), (2, .class_ 112), (0, u "java/lang/constant/Constable"), (0, .class_ 114), (0, u "java/lang/Comparable"), (0, .class_ 116), (0, u "java/io/Serializable")] 87

/-- java/lang/Enum -/
def k12 : Class := { plain "java/lang/Enum" (some 0) with
  accessFlags := 1057
  interfaces := #[9, 7, 2]
  cf := some (fileOf pool12 2 #[.nestMembers #[106]] #[] 1057 12 #[111, 113, 115] #[{ accessFlags := 18, nameIndex := 5, descriptorIndex := 6, attributes := #[] }, { accessFlags := 18, nameIndex := 9, descriptorIndex := 10, attributes := #[] }, { accessFlags := 2, nameIndex := 19, descriptorIndex := 10, attributes := #[] }])
  fields := #[{ name := "name", type := (.object "java/lang/String"), accessFlags := 18, slot := 0, constantValue := 0 }, { name := "ordinal", type := .int, accessFlags := 18, slot := 1, constantValue := 0 }, { name := "hash", type := .int, accessFlags := 2, slot := 2, constantValue := 0 }]
  methods := #[]
  instanceTypes := #[(.object "java/lang/String"), .int, .int]
  staticTypes := #[]
  resolved := Array.replicate 204 none
  statics := none }

def pool13 : Array CpInfo := pool [(1, .class_ 2), (0, u "com/example/coxswain/coxswain/api/ApiStatus"), (2, u "OK"), (0, u "Lcom/example/coxswain/coxswain/api/ApiStatus;"), (2, u "BAD_REQUEST"), (2, u "UNAUTHORIZED"), (2, u "FORBIDDEN"), (2, u "NOT_FOUND"), (2, u "METHOD_NOT_ALLOWED"), (2, u "CONFLICT"), (2, u "PAYLOAD_TOO_LARGE"), (2, u "MISDIRECTED"), (2, u "INTERNAL_ERROR"), (2, u "UNAVAILABLE"), (2, u "$VALUES"), (0, u "[Lcom/example/coxswain/coxswain/api/ApiStatus;"), (6, .class_ 49), (1, u "java/lang/Enum"), (6, .fieldref 1 57), (0, .nameAndType 58 59), (0, u "code"), (0, u "I"), (25, u "()I")] 8

def k13c0 : Code := { maxStack := 1, maxLocals := 1, code := prog_3_method_4_code, exceptionTable := #[], attributes := #[] }
def k13m0 : Method := { name := "code", desc := "()I", sig := { parameters := [], returnType := some .int }, accessFlags := 1, code := some k13c0 }
/-- com/example/coxswain/coxswain/api/ApiStatus -/
def k13 : Class := { plain "com/example/coxswain/coxswain/api/ApiStatus" (some 12) with
  accessFlags := 16433
  interfaces := #[]
  cf := some (fileOf pool13 1 #[] #[{ accessFlags := 1, nameIndex := 58, descriptorIndex := 85, attributes := #[] }] 16433 47 #[] #[{ accessFlags := 16409, nameIndex := 5, descriptorIndex := 6, attributes := #[] }, { accessFlags := 16409, nameIndex := 9, descriptorIndex := 6, attributes := #[] }, { accessFlags := 16409, nameIndex := 12, descriptorIndex := 6, attributes := #[] }, { accessFlags := 16409, nameIndex := 15, descriptorIndex := 6, attributes := #[] }, { accessFlags := 16409, nameIndex := 18, descriptorIndex := 6, attributes := #[] }, { accessFlags := 16409, nameIndex := 21, descriptorIndex := 6, attributes := #[] }, { accessFlags := 16409, nameIndex := 24, descriptorIndex := 6, attributes := #[] }, { accessFlags := 16409, nameIndex := 27, descriptorIndex := 6, attributes := #[] }, { accessFlags := 16409, nameIndex := 30, descriptorIndex := 6, attributes := #[] }, { accessFlags := 16409, nameIndex := 33, descriptorIndex := 6, attributes := #[] }, { accessFlags := 16409, nameIndex := 36, descriptorIndex := 6, attributes := #[] }, { accessFlags := 18, nameIndex := 58, descriptorIndex := 59, attributes := #[] }, { accessFlags := 4122, nameIndex := 39, descriptorIndex := 40, attributes := #[] }])
  fields := #[{ name := "OK", type := (.object "com/example/coxswain/coxswain/api/ApiStatus"), accessFlags := 16409, slot := 0, constantValue := 0 }, { name := "BAD_REQUEST", type := (.object "com/example/coxswain/coxswain/api/ApiStatus"), accessFlags := 16409, slot := 1, constantValue := 0 }, { name := "UNAUTHORIZED", type := (.object "com/example/coxswain/coxswain/api/ApiStatus"), accessFlags := 16409, slot := 2, constantValue := 0 }, { name := "FORBIDDEN", type := (.object "com/example/coxswain/coxswain/api/ApiStatus"), accessFlags := 16409, slot := 3, constantValue := 0 }, { name := "NOT_FOUND", type := (.object "com/example/coxswain/coxswain/api/ApiStatus"), accessFlags := 16409, slot := 4, constantValue := 0 }, { name := "METHOD_NOT_ALLOWED", type := (.object "com/example/coxswain/coxswain/api/ApiStatus"), accessFlags := 16409, slot := 5, constantValue := 0 }, { name := "CONFLICT", type := (.object "com/example/coxswain/coxswain/api/ApiStatus"), accessFlags := 16409, slot := 6, constantValue := 0 }, { name := "PAYLOAD_TOO_LARGE", type := (.object "com/example/coxswain/coxswain/api/ApiStatus"), accessFlags := 16409, slot := 7, constantValue := 0 }, { name := "MISDIRECTED", type := (.object "com/example/coxswain/coxswain/api/ApiStatus"), accessFlags := 16409, slot := 8, constantValue := 0 }, { name := "INTERNAL_ERROR", type := (.object "com/example/coxswain/coxswain/api/ApiStatus"), accessFlags := 16409, slot := 9, constantValue := 0 }, { name := "UNAVAILABLE", type := (.object "com/example/coxswain/coxswain/api/ApiStatus"), accessFlags := 16409, slot := 10, constantValue := 0 }, { name := "code", type := .int, accessFlags := 18, slot := 3, constantValue := 0 }, { name := "$VALUES", type := (.array (.object "com/example/coxswain/coxswain/api/ApiStatus")), accessFlags := 4122, slot := 11, constantValue := 0 }]
  methods := #[k13m0]
  instanceTypes := #[(.object "java/lang/String"), .int, .int, .int]
  staticTypes := #[(.object "com/example/coxswain/coxswain/api/ApiStatus"), (.object "com/example/coxswain/coxswain/api/ApiStatus"), (.object "com/example/coxswain/coxswain/api/ApiStatus"), (.object "com/example/coxswain/coxswain/api/ApiStatus"), (.object "com/example/coxswain/coxswain/api/ApiStatus"), (.object "com/example/coxswain/coxswain/api/ApiStatus"), (.object "com/example/coxswain/coxswain/api/ApiStatus"), (.object "com/example/coxswain/coxswain/api/ApiStatus"), (.object "com/example/coxswain/coxswain/api/ApiStatus"), (.object "com/example/coxswain/coxswain/api/ApiStatus"), (.object "com/example/coxswain/coxswain/api/ApiStatus"), (.array (.object "com/example/coxswain/coxswain/api/ApiStatus"))]
  resolved := Array.replicate 94 none
  statics := some 1 }

def pool14 : Array CpInfo := pool [(2, .class_ 4), (1, u "java/lang/Object"), (0, u "<init>"), (0, u "()V"), (12, .class_ 20), (0, u "java/util/Collections"), (63, u "r"), (0, u "Ljava/util/Random;"), (80, .class_ 167), (0, u "java/util/Collections$UnmodifiableCollection"), (6, .class_ 175), (0, u "java/util/Collections$UnmodifiableSequencedCollection"), (6, .class_ 183), (0, u "java/util/Collections$UnmodifiableSet"), (6, .class_ 191), (0, u "java/util/Collections$UnmodifiableSequencedSet"), (6, .class_ 199), (0, u "java/util/Collections$UnmodifiableSortedSet"), (6, .class_ 207), (0, u "java/util/Collections$UnmodifiableNavigableSet"), (4, .class_ 213), (0, u "java/util/Collections$UnmodifiableList"), (1, .class_ 216), (0, u "java/util/Collections$UnmodifiableRandomAccessList"), (6, .class_ 224), (0, u "java/util/Collections$UnmodifiableMap"), (6, .class_ 232), (0, u "java/util/Collections$UnmodifiableSequencedMap"), (4, .class_ 238), (0, u "java/util/Collections$UnmodifiableSortedMap"), (6, .class_ 246), (0, u "java/util/Collections$UnmodifiableNavigableMap"), (3, .class_ 251), (0, u "java/util/Collections$SynchronizedCollection"), (4, .class_ 257), (0, u "java/util/Collections$SynchronizedSet"), (4, .class_ 263), (0, u "java/util/Collections$SynchronizedSortedSet"), (1, .class_ 266), (0, u "java/util/Collections$SynchronizedNavigableSet"), (1, .class_ 269), (0, u "java/util/Collections$SynchronizedRandomAccessList"), (1, .class_ 272), (0, u "java/util/Collections$SynchronizedList"), (5, .class_ 279), (0, u "java/util/Collections$SynchronizedMap"), (1, .class_ 282), (0, u "java/util/Collections$SynchronizedSortedMap"), (1, .class_ 285), (0, u "java/util/Collections$SynchronizedNavigableMap"), (1, .class_ 288), (0, u "java/util/Collections$CheckedCollection"), (11, .class_ 301), (0, u "java/util/Collections$CheckedQueue"), (3, .class_ 306), (0, u "java/util/Collections$CheckedSet"), (3, .class_ 311), (0, u "java/util/Collections$CheckedSortedSet"), (3, .class_ 316), (0, u "java/util/Collections$CheckedNavigableSet"), (3, .class_ 321), (0, u "java/util/Collections$CheckedRandomAccessList"), (3, .class_ 326), (0, u "java/util/Collections$CheckedList"), (1, .class_ 329), (0, u "java/util/Collections$CheckedMap"), (3, .class_ 334), (0, u "java/util/Collections$CheckedSortedMap"), (3, .class_ 339), (0, u "java/util/Collections$CheckedNavigableMap"), (4, .class_ 346), (1, u "java/util/Collections$EmptyIterator"), (3, .class_ 352), (1, u "java/util/Collections$EmptyListIterator"), (2, .class_ 357), (1, u "java/util/Collections$EmptyEnumeration"), (4, u "EMPTY_SET"), (0, u "Ljava/util/Set;"), (6, u "EMPTY_LIST"), (0, u "Ljava/util/List;"), (2, u "EMPTY_MAP"), (0, u "Ljava/util/Map;"), (4, .class_ 381), (0, u "java/util/Collections$SingletonSet"), (2, .class_ 385), (0, u "java/util/Collections$1"), (1, .class_ 388), (0, u "java/util/Collections$2"), (1, .class_ 391), (0, u "java/util/Collections$SingletonList"), (1, .class_ 394), (0, u "java/util/Collections$SingletonMap"), (22, .class_ 418), (0, u "java/util/Collections$CopiesList"), (4, .class_ 425), (1, u "java/util/Collections$ReverseComparator"), (8, .class_ 435), (0, u "java/util/Collections$ReverseComparator2"), (6, .class_ 443), (0, u "java/util/Collections$3"), (25, .class_ 470), (0, u "java/util/Collections$SetFromMap"), (2, .class_ 474), (0, u "java/util/Collections$SequencedSetFromMap"), (3, .class_ 479), (0, u "java/util/Collections$AsLIFOQueue"), (11, .class_ 492), (0, u "java/util/Collections$EmptySet"), (1, .class_ 495), (0, u "java/util/Collections$EmptyList"), (1, .class_ 498), (0, u "java/util/Collections$EmptyMap"), (1, u "BINARYSEARCH_THRESHOLD"), (0, u "I"), (2, u "REVERSE_THRESHOLD"), (1, u "SHUFFLE_THRESHOLD"), (1, u "FILL_THRESHOLD"), (1, u "ROTATE_THRESHOLD"), (1, u "COPY_THRESHOLD"), (1, u "REPLACEALL_THRESHOLD"), (1, u "INDEXOFSUBLIST_THRESHOLD"), (333, .class_ 851), (0, u "java/util/Collections$CheckedMap$CheckedEntrySet"), (0, .class_ 853), (0, u "java/util/Collections$CheckedMap$CheckedEntrySet$CheckedEntry"), (0, .class_ 855), (0, u "java/util/Collections$CheckedMap$CheckedEntrySet$1"), (0, .class_ 857), (0, u "java/util/Collections$CheckedList$1"), (0, .class_ 859), (0, u "java/util/Collections$CheckedCollection$1"), (0, .class_ 861), (0, u "java/util/Collections$UnmodifiableNavigableMap$EmptyNavigableMap"), (0, .class_ 863), (0, u "java/util/Collections$UnmodifiableMap$UnmodifiableEntrySet"), (0, .class_ 865), (0, u "java/util/Collections$UnmodifiableMap$UnmodifiableEntrySet$UnmodifiableEntry"), (0, .class_ 867), (0, u "java/util/Collections$UnmodifiableMap$UnmodifiableEntrySet$UnmodifiableEntrySetSpliterator"), (0, .class_ 869), (0, u "java/util/Collections$UnmodifiableMap$UnmodifiableEntrySet$1"), (0, .class_ 871), (0, u "java/util/Collections$UnmodifiableList$1"), (0, .class_ 873), (0, u "java/util/Collections$UnmodifiableNavigableSet$EmptyNavigableSet"), (0, .class_ 875), (0, u "java/util/Collections$UnmodifiableCollection$1")] 57

def k14m0 : Method := { name := "<init>", desc := "()V", sig := { parameters := [], returnType := none }, accessFlags := 2, code := none }
/-- java/util/Collections -/
def k14 : Class := { plain "java/util/Collections" (some 0) with
  accessFlags := 33
  interfaces := #[]
  cf := some (fileOf pool14 19 #[.nestMembers #[478, 473, 469, 434, 423, 417, 393, 390, 380, 497, 494, 491, 355, 350, 344, 338, 333, 328, 850, 852, 854, 320, 325, 856, 315, 310, 305, 300, 287, 858, 284, 281, 278, 268, 271, 265, 262, 256, 250, 245, 860, 237, 231, 223, 862, 864, 866, 868, 215, 212, 870, 206, 872, 198, 190, 182, 174, 166, 874, 442, 387, 384]] #[{ accessFlags := 2, nameIndex := 5, descriptorIndex := 6, attributes := #[] }] 33 2 #[] #[{ accessFlags := 26, nameIndex := 500, descriptorIndex := 501, attributes := #[] }, { accessFlags := 26, nameIndex := 504, descriptorIndex := 501, attributes := #[] }, { accessFlags := 26, nameIndex := 506, descriptorIndex := 501, attributes := #[] }, { accessFlags := 26, nameIndex := 508, descriptorIndex := 501, attributes := #[] }, { accessFlags := 26, nameIndex := 510, descriptorIndex := 501, attributes := #[] }, { accessFlags := 26, nameIndex := 512, descriptorIndex := 501, attributes := #[] }, { accessFlags := 26, nameIndex := 514, descriptorIndex := 501, attributes := #[] }, { accessFlags := 26, nameIndex := 516, descriptorIndex := 501, attributes := #[] }, { accessFlags := 10, nameIndex := 84, descriptorIndex := 85, attributes := #[] }, { accessFlags := 25, nameIndex := 362, descriptorIndex := 363, attributes := #[] }, { accessFlags := 25, nameIndex := 370, descriptorIndex := 371, attributes := #[] }, { accessFlags := 25, nameIndex := 374, descriptorIndex := 375, attributes := #[] }])
  fields := #[{ name := "BINARYSEARCH_THRESHOLD", type := .int, accessFlags := 26, slot := 0, constantValue := 0 }, { name := "REVERSE_THRESHOLD", type := .int, accessFlags := 26, slot := 1, constantValue := 0 }, { name := "SHUFFLE_THRESHOLD", type := .int, accessFlags := 26, slot := 2, constantValue := 0 }, { name := "FILL_THRESHOLD", type := .int, accessFlags := 26, slot := 3, constantValue := 0 }, { name := "ROTATE_THRESHOLD", type := .int, accessFlags := 26, slot := 4, constantValue := 0 }, { name := "COPY_THRESHOLD", type := .int, accessFlags := 26, slot := 5, constantValue := 0 }, { name := "REPLACEALL_THRESHOLD", type := .int, accessFlags := 26, slot := 6, constantValue := 0 }, { name := "INDEXOFSUBLIST_THRESHOLD", type := .int, accessFlags := 26, slot := 7, constantValue := 0 }, { name := "r", type := (.object "java/util/Random"), accessFlags := 10, slot := 8, constantValue := 0 }, { name := "EMPTY_SET", type := (.object "java/util/Set"), accessFlags := 25, slot := 9, constantValue := 0 }, { name := "EMPTY_LIST", type := (.object "java/util/List"), accessFlags := 25, slot := 10, constantValue := 0 }, { name := "EMPTY_MAP", type := (.object "java/util/Map"), accessFlags := 25, slot := 11, constantValue := 0 }]
  methods := #[k14m0]
  instanceTypes := #[]
  staticTypes := #[.int, .int, .int, .int, .int, .int, .int, .int, (.object "java/util/Random"), (.object "java/util/Set"), (.object "java/util/List"), (.object "java/util/Map")]
  resolved := Array.replicate 933 none
  statics := some 2 }

def pool15 : Array CpInfo := pool [(8, .class_ 10), (1, u "java/lang/Iterable"), (24, .class_ 36), (0, u "java/lang/Object")] 25

/-- java/lang/Iterable -/
def k15 : Class := { plain "java/lang/Iterable" (some 0) with
  accessFlags := 1537
  interfaces := #[]
  cf := some (fileOf pool15 8 #[] #[] 1537 35 #[] #[])
  fields := #[]
  methods := #[]
  instanceTypes := #[]
  staticTypes := #[]
  resolved := Array.replicate 62 none
  statics := none }

def pool16 : Array CpInfo := pool [(10, .class_ 12), (1, u "java/util/Collection"), (47, .class_ 61), (0, u "java/lang/Object"), (0, .class_ 63), (0, u "java/lang/Iterable")] 51

/-- java/util/Collection -/
def k16 : Class := { plain "java/util/Collection" (some 0) with
  accessFlags := 1537
  interfaces := #[15]
  cf := some (fileOf pool16 10 #[] #[] 1537 60 #[62] #[])
  fields := #[]
  methods := #[]
  instanceTypes := #[]
  staticTypes := #[]
  resolved := Array.replicate 115 none
  statics := none }

def pool17 : Array CpInfo := pool [(2, .class_ 4), (1, u "java/lang/Object"), (0, u "<init>"), (0, u "()V"), (1, .class_ 10), (1, u "java/util/AbstractCollection"), (66, .class_ 78), (0, u "java/util/Collection")] 81

def k17m0 : Method := { name := "<init>", desc := "()V", sig := { parameters := [], returnType := none }, accessFlags := 4, code := none }
/-- java/util/AbstractCollection -/
def k17 : Class := { plain "java/util/AbstractCollection" (some 0) with
  accessFlags := 1057
  interfaces := #[16]
  cf := some (fileOf pool17 8 #[] #[{ accessFlags := 4, nameIndex := 5, descriptorIndex := 6, attributes := #[] }] 1057 2 #[77] #[])
  fields := #[]
  methods := #[k17m0]
  instanceTypes := #[]
  staticTypes := #[]
  resolved := Array.replicate 160 none
  statics := none }

def pool18 : Array CpInfo := pool [(8, .class_ 10), (1, u "java/util/SequencedCollection"), (15, .class_ 27), (0, u "java/lang/Object"), (0, .class_ 29), (0, u "java/util/Collection")] 27

/-- java/util/SequencedCollection -/
def k18 : Class := { plain "java/util/SequencedCollection" (some 0) with
  accessFlags := 1537
  interfaces := #[16]
  cf := some (fileOf pool18 8 #[] #[] 1537 26 #[28] #[])
  fields := #[]
  methods := #[]
  instanceTypes := #[]
  staticTypes := #[]
  resolved := Array.replicate 57 none
  statics := none }

def pool19 : Array CpInfo := pool [(8, .class_ 10), (1, u "java/util/List"), (92, .class_ 104), (0, u "java/lang/Object"), (15, .class_ 121), (0, u "java/util/SequencedCollection")] 129

/-- java/util/List -/
def k19 : Class := { plain "java/util/List" (some 0) with
  accessFlags := 1537
  interfaces := #[18]
  cf := some (fileOf pool19 8 #[] #[] 1537 103 #[120] #[])
  fields := #[]
  methods := #[]
  instanceTypes := #[]
  staticTypes := #[]
  resolved := Array.replicate 251 none
  statics := none }

def pool20 : Array CpInfo := pool [(2, .class_ 4), (1, u "java/util/AbstractCollection"), (0, u "<init>"), (0, u "()V"), (1, .class_ 10), (1, u "java/util/AbstractList"), (0, u "modCount"), (0, u "I"), (64, .class_ 78), (0, u "java/util/AbstractList$Itr"), (3, .class_ 83), (0, u "java/util/AbstractList$ListItr"), (9, .class_ 94), (0, u "java/util/AbstractList$RandomAccessSubList"), (3, .class_ 99), (0, u "java/util/AbstractList$SubList"), (33, .class_ 134), (0, u "java/util/List"), (73, .class_ 209), (0, u "java/util/AbstractList$SubList$1"), (0, .class_ 211), (0, u "java/util/AbstractList$RandomAccessSpliterator")] 6

def k20m0 : Method := { name := "<init>", desc := "()V", sig := { parameters := [], returnType := none }, accessFlags := 4, code := none }
/-- java/util/AbstractList -/
def k20 : Class := { plain "java/util/AbstractList" (some 17) with
  accessFlags := 1057
  interfaces := #[19]
  cf := some (fileOf pool20 8 #[.nestMembers #[93, 98, 208, 210, 82, 77]] #[{ accessFlags := 4, nameIndex := 5, descriptorIndex := 6, attributes := #[] }] 1057 2 #[133] #[{ accessFlags := 132, nameIndex := 11, descriptorIndex := 12, attributes := #[] }])
  fields := #[{ name := "modCount", type := .int, accessFlags := 132, slot := 0, constantValue := 0 }]
  methods := #[k20m0]
  instanceTypes := #[.int]
  staticTypes := #[]
  resolved := Array.replicate 218 none
  statics := none }

def pool21 : Array CpInfo := pool [(1, .class_ 2), (0, u "java/util/RandomAccess"), (0, .class_ 4), (0, u "java/lang/Object")] 2

/-- java/util/RandomAccess -/
def k21 : Class := { plain "java/util/RandomAccess" (some 0) with
  accessFlags := 1537
  interfaces := #[]
  cf := some (fileOf pool21 1 #[] #[] 1537 3 #[] #[])
  fields := #[]
  methods := #[]
  instanceTypes := #[]
  staticTypes := #[]
  resolved := Array.replicate 7 none
  statics := none }

def pool22 : Array CpInfo := pool [(2, .class_ 4), (1, u "java/util/AbstractList"), (0, u "<init>"), (0, u "()V"), (1, .class_ 10), (1, u "java/util/Collections"), (54, .class_ 66), (0, u "java/util/Collections$EmptyList"), (0, .class_ 68), (0, u "java/util/RandomAccess"), (0, .class_ 70), (0, u "java/io/Serializable"), (0, u "serialVersionUID"), (0, u "J")] 77

def k22m0 : Method := { name := "<init>", desc := "()V", sig := { parameters := [], returnType := none }, accessFlags := 2, code := none }
/-- java/util/Collections$EmptyList -/
def k22 : Class := { plain "java/util/Collections$EmptyList" (some 20) with
  accessFlags := 32
  interfaces := #[21, 2]
  cf := some (fileOf pool22 65 #[.nestHost 8] #[{ accessFlags := 2, nameIndex := 5, descriptorIndex := 6, attributes := #[] }] 32 2 #[67, 69] #[{ accessFlags := 26, nameIndex := 71, descriptorIndex := 72, attributes := #[] }])
  fields := #[{ name := "serialVersionUID", type := .long, accessFlags := 26, slot := 0, constantValue := 0 }]
  methods := #[k22m0]
  instanceTypes := #[.int]
  staticTypes := #[.long]
  resolved := Array.replicate 150 none
  statics := none }

def pool23 : Array CpInfo := pool [(2, .class_ 4), (1, u "java/lang/StackTraceElement"), (0, u "<init>"), (2, .class_ 10), (1, u "java/lang/Object"), (0, u "()V"), (2, u "format"), (0, u "B"), (2, u "classLoaderName"), (0, u "Ljava/lang/String;"), (2, u "moduleName"), (2, u "moduleVersion"), (12, u "declaringClass"), (4, u "methodName"), (2, u "fileName"), (2, u "lineNumber"), (0, u "I"), (65, u "declaringClassObject"), (0, u "Ljava/lang/Class;"), (33, .class_ 153), (1, u "java/lang/StackTraceElement$HashedModules"), (17, .class_ 172), (0, u "java/io/Serializable"), (0, u "NATIVE_METHOD"), (1, u "UNKNOWN_SOURCE"), (2, u "BUILTIN_CLASS_LOADER"), (1, u "JDK_NON_UPGRADEABLE_MODULE"), (1, u "serialVersionUID"), (0, u "J")] 51

def k23m0 : Method := { name := "<init>", desc := "()V", sig := { parameters := [], returnType := none }, accessFlags := 2, code := none }
/-- java/lang/StackTraceElement -/
def k23 : Class := { plain "java/lang/StackTraceElement" (some 0) with
  accessFlags := 49
  interfaces := #[2]
  cf := some (fileOf pool23 2 #[.nestMembers #[151]] #[{ accessFlags := 2, nameIndex := 5, descriptorIndex := 11, attributes := #[] }] 49 8 #[171] #[{ accessFlags := 26, nameIndex := 173, descriptorIndex := 19, attributes := #[] }, { accessFlags := 26, nameIndex := 175, descriptorIndex := 19, attributes := #[] }, { accessFlags := 130, nameIndex := 116, descriptorIndex := 117, attributes := #[] }, { accessFlags := 2, nameIndex := 18, descriptorIndex := 19, attributes := #[] }, { accessFlags := 2, nameIndex := 22, descriptorIndex := 19, attributes := #[] }, { accessFlags := 2, nameIndex := 25, descriptorIndex := 19, attributes := #[] }, { accessFlags := 2, nameIndex := 38, descriptorIndex := 19, attributes := #[] }, { accessFlags := 2, nameIndex := 43, descriptorIndex := 19, attributes := #[] }, { accessFlags := 2, nameIndex := 46, descriptorIndex := 19, attributes := #[] }, { accessFlags := 2, nameIndex := 49, descriptorIndex := 50, attributes := #[] }, { accessFlags := 2, nameIndex := 14, descriptorIndex := 15, attributes := #[] }, { accessFlags := 26, nameIndex := 178, descriptorIndex := 15, attributes := #[] }, { accessFlags := 26, nameIndex := 180, descriptorIndex := 15, attributes := #[] }, { accessFlags := 26, nameIndex := 182, descriptorIndex := 183, attributes := #[] }])
  fields := #[{ name := "NATIVE_METHOD", type := (.object "java/lang/String"), accessFlags := 26, slot := 0, constantValue := 0 }, { name := "UNKNOWN_SOURCE", type := (.object "java/lang/String"), accessFlags := 26, slot := 1, constantValue := 0 }, { name := "declaringClassObject", type := (.object "java/lang/Class"), accessFlags := 130, slot := 0, constantValue := 0 }, { name := "classLoaderName", type := (.object "java/lang/String"), accessFlags := 2, slot := 1, constantValue := 0 }, { name := "moduleName", type := (.object "java/lang/String"), accessFlags := 2, slot := 2, constantValue := 0 }, { name := "moduleVersion", type := (.object "java/lang/String"), accessFlags := 2, slot := 3, constantValue := 0 }, { name := "declaringClass", type := (.object "java/lang/String"), accessFlags := 2, slot := 4, constantValue := 0 }, { name := "methodName", type := (.object "java/lang/String"), accessFlags := 2, slot := 5, constantValue := 0 }, { name := "fileName", type := (.object "java/lang/String"), accessFlags := 2, slot := 6, constantValue := 0 }, { name := "lineNumber", type := .int, accessFlags := 2, slot := 7, constantValue := 0 }, { name := "format", type := .byte, accessFlags := 2, slot := 8, constantValue := 0 }, { name := "BUILTIN_CLASS_LOADER", type := .byte, accessFlags := 26, slot := 2, constantValue := 0 }, { name := "JDK_NON_UPGRADEABLE_MODULE", type := .byte, accessFlags := 26, slot := 3, constantValue := 0 }, { name := "serialVersionUID", type := .long, accessFlags := 26, slot := 4, constantValue := 0 }]
  methods := #[k23m0]
  instanceTypes := #[(.object "java/lang/Class"), (.object "java/lang/String"), (.object "java/lang/String"), (.object "java/lang/String"), (.object "java/lang/String"), (.object "java/lang/String"), (.object "java/lang/String"), .int, .byte]
  staticTypes := #[(.object "java/lang/String"), (.object "java/lang/String"), .byte, .byte, .long]
  resolved := Array.replicate 235 none
  statics := none }

def pool24 : Array CpInfo := pool [(1, u "java/lang/Cloneable"), (0, .class_ 1), (0, u "java/lang/Object"), (0, .class_ 3)] 3

/-- java/lang/Cloneable -/
def k24 : Class := { plain "java/lang/Cloneable" (some 0) with
  accessFlags := 1537
  interfaces := #[]
  cf := some (fileOf pool24 2 #[] #[] 1537 4 #[] #[])
  fields := #[]
  methods := #[]
  instanceTypes := #[]
  staticTypes := #[]
  resolved := Array.replicate 8 none
  statics := none }

/-- the primitive byte -/
def k25 : Class := { plain "byte" none with kind := .primitive 'B', accessFlags := 0x411 }
/-- [B -/
def k26 : Class := { plain "[B" (some 0) with kind := .array 25 .byte, interfaces := #[24, 2], accessFlags := 1041 }

/-- the primitive int -/
def k27 : Class := { plain "int" none with kind := .primitive 'I', accessFlags := 0x411 }
/-- [I -/
def k28 : Class := { plain "[I" (some 0) with kind := .array 27 .int, interfaces := #[24, 2], accessFlags := 1041 }

/-- [Ljava/lang/Object; -/
def k29 : Class := { plain "[Ljava/lang/Object;" (some 0) with kind := .array 0 (.object "java/lang/Object"), interfaces := #[24, 2], accessFlags := 1041 }

/-- [Ljava/lang/StackTraceElement; -/
def k30 : Class := { plain "[Ljava/lang/StackTraceElement;" (some 0) with kind := .array 23 (.object "java/lang/StackTraceElement"), interfaces := #[24, 2], accessFlags := 1041 }

/-- [Ljava/lang/Throwable; -/
def k31 : Class := { plain "[Ljava/lang/Throwable;" (some 0) with kind := .array 3 (.object "java/lang/Throwable"), interfaces := #[24, 2], accessFlags := 1041 }

def heap : Heap := #[{ cls := 3, slots := #[.long 0, .ref 14, .ref 15, .null, .null, .null, .null, .ref 16, .int 1], vm := .statics 3 },
  { cls := 13, slots := #[.ref 3, .ref 4, .ref 5, .ref 6, .ref 7, .ref 8, .ref 9, .ref 10, .ref 11, .ref 12, .ref 13, .null], vm := .statics 13 },
  { cls := 14, slots := #[.int 0, .int 0, .int 0, .int 0, .int 0, .int 0, .int 0, .int 0, .null, .null, .ref 15, .null], vm := .statics 14 },
  { cls := 13, slots := #[.null, .int 0, .int 0, .int 200], vm := .none },
  { cls := 13, slots := #[.null, .int 1, .int 0, .int 400], vm := .none },
  { cls := 13, slots := #[.null, .int 2, .int 0, .int 401], vm := .none },
  { cls := 13, slots := #[.null, .int 3, .int 0, .int 403], vm := .none },
  { cls := 13, slots := #[.null, .int 4, .int 0, .int 404], vm := .none },
  { cls := 13, slots := #[.null, .int 5, .int 0, .int 405], vm := .none },
  { cls := 13, slots := #[.null, .int 6, .int 0, .int 409], vm := .none },
  { cls := 13, slots := #[.null, .int 7, .int 0, .int 413], vm := .none },
  { cls := 13, slots := #[.null, .int 8, .int 0, .int 421], vm := .none },
  { cls := 13, slots := #[.null, .int 9, .int 0, .int 500], vm := .none },
  { cls := 13, slots := #[.null, .int 10, .int 0, .int 503], vm := .none },
  { cls := 30, slots := #[], vm := .none },
  { cls := 22, slots := #[.int 0], vm := .none },
  { cls := 31, slots := #[], vm := .none }]
def classes : Array Class := #[k0, k1, k2, k3, k4, k5, k6, k7, k8, k9, k10, k11, k12, k13, k14, k15, k16, k17, k18, k19, k20, k21, k22, k23, k24, k25, k26, k27, k28, k29, k30, k31]
def interned : List (Array UInt16 × Addr) := []
def slotsUsed : Nat := 78
def theMethod : MethodId := ⟨1, 3⟩
def args0 : Array Value := #[.int 5, .int 6, .int 7]
def aboutOver (below : List Frame) : State where
  vm := { classes := classes, interned := interned.toArray }
  heap := heap
  slotsUsed := slotsUsed
  threads := #[{ frames := .invoking theMethod args0 :: below }]
def below0 : List Frame := [.native { method := ⟨0, 0⟩, args := #[] }]
def about1 : State := aboutOver below0
def p0 : Program := .bare "" "" ""
def e0 : Env := launch0.env 0 0 0
theorem w_frames : about1.frames = Frame.invoking theMethod args0 :: below0 := rfl
set_option maxRecDepth 65536 in
theorem w_args : argsFit about1.vm theMethod args0 = true := by decide +kernel
set_option maxRecDepth 65536 in
theorem w_heap : heapFits about1 = true := by decide +kernel
set_option maxRecDepth 65536 in
theorem w_runnable : about1.curStatus? = some .runnable := by decide +kernel
set_option maxRecDepth 65536 in
theorem w_alone : about1.alone = true := by decide +kernel
set_option maxRecDepth 65536 in
theorem w_named : about1.methodNamed? x = some theMethod := by decide +kernel
set_option maxRecDepth 65536 in
theorem w_hears : about1.hears theMethod below0 = true := by decide +kernel
set_option maxRecDepth 65536 in
theorem w_ripe : about1.ripe theMethod args0 below0 = true := by decide +kernel
theorem w_running : about1.status = .running := rfl
set_option maxRecDepth 65536 in
theorem w_room : about1.hasRoom e0.platform room_1 = true :=
  launch0.hasRoom_least _ room_1 (by decide +kernel) (by decide +kernel) (by decide +kernel) (by decide +kernel) (by decide +kernel) (by decide +kernel)
theorem allAtoms_all (ts : List Jvm.Cond) (a : Array Jvm.Value) (st : Jvm.State) : (allAtoms ts).before a st = ts.all (fun c => c.before a st) := by
  induction ts with
  | nil => rfl
  | cons c t ih =>
    show (Jvm.Cond.and c (allAtoms t)).before a st = _
    rw [Jvm.Cond.before_and, ih, List.all_cons]
def words1 : List Jvm.Cond := Jvm.Cond.code x code maxLocals ret :: tables_1
/-- a 'code' word, met by the world's own term for the bytes: nothing is compared byte by byte -/
theorem code_word {y : MethodName} {bytes : ByteArray} {mx : Nat} {rt : Option FieldType} {a : Array Value} {s : State} {m : MethodId} {meth : Method} {c : Code} (h1 : s.methodNamed? y = some m) (h2 : s.vm.method? m = some meth) (h3 : meth.code = some c) (h4 : c.code = bytes)
    (h5 : (c.maxLocals == mx && c.exceptionTable.isEmpty && decide (c.maxStack ≤ mostOperands) && decide (meth.sig.returnType = rt) && !meth.locks && decide (parseMethodDescriptor y.desc = some meth.sig)) = true) : (Jvm.Cond.code y bytes mx rt).before a s = true := by
  simp only [Bool.and_eq_true, beq_iff_eq, Bool.not_eq_true', decide_eq_true_eq] at h5
  obtain ⟨⟨⟨⟨⟨g1, g2⟩, g3⟩, g4⟩, g5⟩, g6⟩ := h5
  simp [Cond.before, Cond.holds, Cond.value, h1, h2, h3, h4, g1, g2, g3, g4, g5, g6]
def isCode : Jvm.Cond → Bool
  | .code _ _ _ _ => true
  | _ => false
theorem all_split {L : List Jvm.Cond} {P : Jvm.Cond → Bool} (h1 : L.all (fun c => isCode c || P c) = true) (h2 : ∀ c ∈ L.filter isCode, P c = true) : L.all P = true := by
  refine List.all_eq_true.mpr fun c hc => ?_
  have h := List.all_eq_true.mp h1 c hc
  rcases Bool.eq_false_or_eq_true (isCode c) with hi | hi
  · exact h2 c (List.mem_filter.mpr ⟨hc, hi⟩)
  · simpa [hi] using h
set_option maxRecDepth 65536 in
theorem w_c0 : (Jvm.Cond.code x code maxLocals ret).before args0 about1 = true := code_word (m := ⟨1, 3⟩) (meth := k1m3) (c := k1c3) (by decide +kernel) rfl rfl rfl (by decide +kernel)
set_option maxRecDepth 65536 in
theorem w_c1 : (Jvm.Cond.code ({ cls := "com/example/coxswain/coxswain/api/ControllerExceptionIsPinLaw", name := "codeOf", desc := "(I)I" } : Jvm.MethodName) method_3_code (1 : Nat) (Option.some Jvm.ClassFile.FieldType.int)).before args0 about1 = true := code_word (m := ⟨1, 2⟩) (meth := k1m2) (c := k1c2) (by decide +kernel) rfl rfl rfl (by decide +kernel)
set_option maxRecDepth 65536 in
theorem w_c2 : (Jvm.Cond.code ({ cls := "com/example/coxswain/coxswain/api/ControllerException", name := "<init>", desc := "(ILjava/lang/String;)V" } : Jvm.MethodName) prog_5_method_3_code (3 : Nat) (Option.none : Option Jvm.ClassFile.FieldType)).before args0 about1 = true := code_word (m := ⟨6, 0⟩) (meth := k6m0) (c := k6c0) (by decide +kernel) rfl rfl rfl (by decide +kernel)
set_option maxRecDepth 65536 in
theorem w_c3 : (Jvm.Cond.code ({ cls := "com/example/coxswain/coxswain/api/ControllerException", name := "<init>", desc := "(ILjava/lang/String;Ljava/time/Duration;)V" } : Jvm.MethodName) prog_5_method_4_code (4 : Nat) (Option.none : Option Jvm.ClassFile.FieldType)).before args0 about1 = true := code_word (m := ⟨6, 1⟩) (meth := k6m1) (c := k6c1) (by decide +kernel) rfl rfl rfl (by decide +kernel)
set_option maxRecDepth 65536 in
theorem w_c4 : (Jvm.Cond.code ({ cls := "java/io/IOException", name := "<init>", desc := "(Ljava/lang/String;)V" } : Jvm.MethodName) jdk_131_method_2_code (2 : Nat) (Option.none : Option Jvm.ClassFile.FieldType)).before args0 about1 = true := code_word (m := ⟨5, 1⟩) (meth := k5m1) (c := k5c1) (by decide +kernel) rfl rfl rfl (by decide +kernel)
set_option maxRecDepth 65536 in
theorem w_c5 : (Jvm.Cond.code ({ cls := "java/lang/Exception", name := "<init>", desc := "(Ljava/lang/String;)V" } : Jvm.MethodName) jdk_59_method_2_code (2 : Nat) (Option.none : Option Jvm.ClassFile.FieldType)).before args0 about1 = true := code_word (m := ⟨4, 1⟩) (meth := k4m1) (c := k4c1) (by decide +kernel) rfl rfl rfl (by decide +kernel)
set_option maxRecDepth 65536 in
theorem w_c6 : (Jvm.Cond.code ({ cls := "java/lang/Throwable", name := "<init>", desc := "(Ljava/lang/String;)V" } : Jvm.MethodName) jdk_78_method_2_code (2 : Nat) (Option.none : Option Jvm.ClassFile.FieldType)).before args0 about1 = true := code_word (m := ⟨3, 1⟩) (meth := k3m1) (c := k3c1) (by decide +kernel) rfl rfl rfl (by decide +kernel)
set_option maxRecDepth 65536 in
theorem w_c7 : (Jvm.Cond.code ({ cls := "java/lang/Object", name := "<init>", desc := "()V" } : Jvm.MethodName) object_method_1_code (1 : Nat) (Option.none : Option Jvm.ClassFile.FieldType)).before args0 about1 = true := code_word (m := ⟨0, 0⟩) (meth := k0m0) (c := k0c0) (by decide +kernel) rfl rfl rfl (by decide +kernel)
set_option maxRecDepth 65536 in
theorem w_c8 : (Jvm.Cond.code ({ cls := "java/lang/Throwable", name := "<init>", desc := "()V" } : Jvm.MethodName) jdk_78_method_1_code (1 : Nat) (Option.none : Option Jvm.ClassFile.FieldType)).before args0 about1 = true := code_word (m := ⟨3, 0⟩) (meth := k3m0) (c := k3c0) (by decide +kernel) rfl rfl rfl (by decide +kernel)
set_option maxRecDepth 65536 in
theorem w_c9 : (Jvm.Cond.code ({ cls := "com/example/coxswain/coxswain/api/ControllerExceptionIsPinLaw", name := "constOf", desc := "(I)Lcom/example/coxswain/coxswain/api/ApiStatus;" } : Jvm.MethodName) method_2_code (1 : Nat) (Option.some (Jvm.ClassFile.FieldType.object "com/example/coxswain/coxswain/api/ApiStatus"))).before args0 about1 = true := code_word (m := ⟨1, 1⟩) (meth := k1m1) (c := k1c1) (by decide +kernel) rfl rfl rfl (by decide +kernel)
set_option maxRecDepth 65536 in
theorem w_c10 : (Jvm.Cond.code ({ cls := "com/example/coxswain/coxswain/api/ControllerException", name := "is", desc := "(Lcom/example/coxswain/coxswain/api/ApiStatus;)Z" } : Jvm.MethodName) prog_5_method_6_code (2 : Nat) (Option.some Jvm.ClassFile.FieldType.boolean)).before args0 about1 = true := code_word (m := ⟨6, 2⟩) (meth := k6m2) (c := k6c2) (by decide +kernel) rfl rfl rfl (by decide +kernel)
set_option maxRecDepth 65536 in
theorem w_c11 : (Jvm.Cond.code ({ cls := "com/example/coxswain/coxswain/api/ApiStatus", name := "code", desc := "()I" } : Jvm.MethodName) prog_3_method_4_code (1 : Nat) (Option.some Jvm.ClassFile.FieldType.int)).before args0 about1 = true := code_word (m := ⟨13, 0⟩) (meth := k13m0) (c := k13c0) (by decide +kernel) rfl rfl rfl (by decide +kernel)
def codes1 : List Jvm.Cond := [Jvm.Cond.code x code maxLocals ret, Jvm.Cond.code ({ cls := "com/example/coxswain/coxswain/api/ControllerExceptionIsPinLaw", name := "codeOf", desc := "(I)I" } : Jvm.MethodName) method_3_code (1 : Nat) (Option.some Jvm.ClassFile.FieldType.int), Jvm.Cond.code ({ cls := "com/example/coxswain/coxswain/api/ControllerException", name := "<init>", desc := "(ILjava/lang/String;)V" } : Jvm.MethodName) prog_5_method_3_code (3 : Nat) (Option.none : Option Jvm.ClassFile.FieldType), Jvm.Cond.code ({ cls := "com/example/coxswain/coxswain/api/ControllerException", name := "<init>", desc := "(ILjava/lang/String;Ljava/time/Duration;)V" } : Jvm.MethodName) prog_5_method_4_code (4 : Nat) (Option.none : Option Jvm.ClassFile.FieldType), Jvm.Cond.code ({ cls := "java/io/IOException", name := "<init>", desc := "(Ljava/lang/String;)V" } : Jvm.MethodName) jdk_131_method_2_code (2 : Nat) (Option.none : Option Jvm.ClassFile.FieldType), Jvm.Cond.code ({ cls := "java/lang/Exception", name := "<init>", desc := "(Ljava/lang/String;)V" } : Jvm.MethodName) jdk_59_method_2_code (2 : Nat) (Option.none : Option Jvm.ClassFile.FieldType), Jvm.Cond.code ({ cls := "java/lang/Throwable", name := "<init>", desc := "(Ljava/lang/String;)V" } : Jvm.MethodName) jdk_78_method_2_code (2 : Nat) (Option.none : Option Jvm.ClassFile.FieldType), Jvm.Cond.code ({ cls := "java/lang/Object", name := "<init>", desc := "()V" } : Jvm.MethodName) object_method_1_code (1 : Nat) (Option.none : Option Jvm.ClassFile.FieldType), Jvm.Cond.code ({ cls := "java/lang/Throwable", name := "<init>", desc := "()V" } : Jvm.MethodName) jdk_78_method_1_code (1 : Nat) (Option.none : Option Jvm.ClassFile.FieldType), Jvm.Cond.code ({ cls := "com/example/coxswain/coxswain/api/ControllerExceptionIsPinLaw", name := "constOf", desc := "(I)Lcom/example/coxswain/coxswain/api/ApiStatus;" } : Jvm.MethodName) method_2_code (1 : Nat) (Option.some (Jvm.ClassFile.FieldType.object "com/example/coxswain/coxswain/api/ApiStatus")), Jvm.Cond.code ({ cls := "com/example/coxswain/coxswain/api/ControllerException", name := "is", desc := "(Lcom/example/coxswain/coxswain/api/ApiStatus;)Z" } : Jvm.MethodName) prog_5_method_6_code (2 : Nat) (Option.some Jvm.ClassFile.FieldType.boolean), Jvm.Cond.code ({ cls := "com/example/coxswain/coxswain/api/ApiStatus", name := "code", desc := "()I" } : Jvm.MethodName) prog_3_method_4_code (1 : Nat) (Option.some Jvm.ClassFile.FieldType.int)]
set_option maxRecDepth 65536 in
theorem codes_eq : words1.filter isCode = codes1 := rfl
theorem w_codes : ∀ c ∈ words1.filter isCode, c.before args0 about1 = true := by
  rw [codes_eq]
  intro c hc
  simp only [codes1, List.mem_cons, List.not_mem_nil, or_false] at hc
  rcases hc with rfl | rfl | rfl | rfl | rfl | rfl | rfl | rfl | rfl | rfl | rfl | rfl
  · exact w_c0
  · exact w_c1
  · exact w_c2
  · exact w_c3
  · exact w_c4
  · exact w_c5
  · exact w_c6
  · exact w_c7
  · exact w_c8
  · exact w_c9
  · exact w_c10
  · exact w_c11
set_option maxRecDepth 65536 in
theorem w_t1 : (words1.take 24).all (fun c => isCode c || c.before args0 about1) = true := by decide +kernel
set_option maxRecDepth 65536 in
theorem w_t2 : ((words1.drop 24).take 24).all (fun c => isCode c || c.before args0 about1) = true := by decide +kernel
set_option maxRecDepth 65536 in
theorem w_t3 : (((words1.drop 24).drop 24).take 24).all (fun c => isCode c || c.before args0 about1) = true := by decide +kernel
set_option maxRecDepth 65536 in
theorem w_t4 : ((((words1.drop 24).drop 24).drop 24).take 24).all (fun c => isCode c || c.before args0 about1) = true := by decide +kernel
set_option maxRecDepth 65536 in
theorem w_t5 : (((((words1.drop 24).drop 24).drop 24).drop 24).take 24).all (fun c => isCode c || c.before args0 about1) = true := by decide +kernel
set_option maxRecDepth 65536 in
theorem w_t6 : (((((words1.drop 24).drop 24).drop 24).drop 24).drop 24).all (fun c => isCode c || c.before args0 about1) = true := by decide +kernel
theorem w_tables : (allAtoms (Jvm.Cond.code x code maxLocals ret :: tables_1)).before args0 about1 = true := by
  rw [allAtoms_all]
  show words1.all (fun c => c.before args0 about1) = true
  refine all_split ?_ w_codes
  rw [← List.take_append_drop 24 words1, List.all_append, w_t1, ← List.take_append_drop 24 (words1.drop 24), List.all_append, w_t2, ← List.take_append_drop 24 ((words1.drop 24).drop 24), List.all_append, w_t3, ← List.take_append_drop 24 (((words1.drop 24).drop 24).drop 24), List.all_append, w_t4, ← List.take_append_drop 24 ((((words1.drop 24).drop 24).drop 24).drop 24), List.all_append, w_t5, w_t6]
  rfl
set_option maxRecDepth 65536 in
theorem w_rest : rest_1_c.before args0 about1 = true := by decide +kernel
set_option maxRecDepth 65536 in
theorem w_case : (Jvm.Cond.and given_1 narrow_1).before args0 about1 = true := by decide +kernel
theorem w_applies : (headSpec (Jvm.Cond.code x code maxLocals ret :: tables_1) room_1).applies x e0.platform about1 = true :=
  (Spec.applies_iff w_frames).mpr ⟨w_running, w_runnable, w_alone, w_named, w_hears, w_ripe, w_room, w_tables⟩
theorem atStart : AtStart classFile x code maxLocals ret World_1 tables_1 room_1 Calls_1 rest_1 Pre_1 launch0 p0 e0 about1 theMethod args0 below0 :=
  ⟨lists_1, trivial, launch0.admits_env _ _ _, launch0.least_env, fairChoices_fair.cas, fairChoices_fair.clock, w_frames, w_args, w_heap, w_applies, ⟨(by decide +kernel : framesKnown about1 = true), ⟨(by decide +kernel : tablesKnown about1 = true), trivial⟩⟩, w_rest, w_case⟩
end start1
theorem witness_1 : WitnessClaimed_1 := ⟨start1.p0, start1.e0, start1.about1, start1.theMethod, start1.args0, start1.below0, start1.atStart⟩
end Jvm.Pilot.@@N@@
