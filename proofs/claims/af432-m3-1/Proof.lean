import JvmDerived
import JvmDerived.Pilot.@@N@@Statement
import JvmDerived.Pilot.@@N@@Code
set_option linter.unusedVariables false
set_option linter.unusedSimpArgs false
namespace Jvm.RoadKit
open Sem ClassFile Op Lib Jvm.Stand Jvm.Free Jvm.LawKit
section OwnFlow
variable {p : Program} {l : Launch} {e : Env} {R : Room} {s : State} {m : MethodId} {args : Array Value} {below : List Frame} {meth : Method} {c : Code} {T : State} {locs : List Loc} {cells slots : Nat} {P : State → Outcome → Prop} {Q : Option Value → Heap → List Loc → Prop} {C S : Nat}
/-- from t the run comes to an end at which P holds -/
def OGo (p : Program) (e : Env) (below : List Frame) (P : State → Outcome → Prop) (t : State) : Prop := ∃ s₂ o, Steps p.tables e below t s₂ ∧ s₂.status = .running ∧ Ended s₂ below o ∧ P s₂ o
/-- it returned; Q of the value, the heap and the places written; the frame -/
def OPost (s : State) (Q : Option Value → Heap → List Loc → Prop) (C S : Nat) (s₂ : State) (o : Outcome) : Prop := ∃ v L, o = .returned v ∧ Q v s₂.heap L ∧ FrameEnd s o s₂ L C S
theorem OGo.step {t t' : State} (h : ∀ u, Steps p.tables e below t' u → Steps p.tables e below t u) (g : OGo p e below P t') : OGo p e below P t := by
  obtain ⟨s2, o, h1, h2⟩ := g
  exact ⟨s2, o, h _ h1, h2⟩
theorem OGo.steps {t t' : State} (h : Steps p.tables e below t t') (g : OGo p e below P t') : OGo p e below P t := OGo.step (fun _ k => h.trans k) g
theorem OGo.retI (X : Stand p l e R s m args below meth c T locs cells slots) (hx : p.tables.exec = Jvm.exec) (hk : meth.locks = false) {pc : Nat} {Ls : Array Slot} {z : Int32} {rest : List Value} (hret : meth.sig.returnType = some .int) (hd : decode c.code pc = .ok (.ireturn, 1))
    (hc : cells ≤ C) (hs : slots ≤ S) (q : Q (some (.int z)) T.heap locs) : OGo p e below (OPost s Q C S) (T.setTop (mkF m pc Ls (.int z :: rest))) := by
  obtain ⟨fs, hr, hrun, hended, hW, hsame⟩ := X.leave (v := some (.int z)) (fun h => by rw [hret] at h; cases h) hk
  exact ⟨_, _, retOut X hx hret rfl (Or.inl ⟨rfl, Or.inl rfl, _, rfl⟩) hd hr, hrun, hended, _, _, rfl, q, ⟨_, rfl⟩, hW, hsame.mono hc hs⟩
theorem OGo.retN (X : Stand p l e R s m args below meth c T locs cells slots) (hx : p.tables.exec = Jvm.exec) (hk : meth.locks = false) {pc : Nat} {Ls : Array Slot} {z : Int32} {t : FieldType} {rest : List Value} (hret : meth.sig.returnType = some t) (ht : t = .boolean ∨ t = .byte ∨ t = .char ∨ t = .short) (hd : decode c.code pc = .ok (.ireturn, 1))
    (hc : cells ≤ C) (hs : slots ≤ S) (q : Q (some (.int (nar t z))) T.heap locs) : OGo p e below (OPost s Q C S) (T.setTop (mkF m pc Ls (.int z :: rest))) := by
  obtain ⟨fs, hr, hrun, hended, hW, hsame⟩ := X.leave (v := some (.int (nar t z))) (fun h => by rw [hret] at h; cases h) hk
  exact ⟨_, _, Jvm.RoadKit.retN X hx hret ht hd hr, hrun, hended, _, _, rfl, q, ⟨_, rfl⟩, hW, hsame.mono hc hs⟩
theorem OGo.retJ (X : Stand p l e R s m args below meth c T locs cells slots) (hx : p.tables.exec = Jvm.exec) (hk : meth.locks = false) {pc : Nat} {Ls : Array Slot} {z : Int64} {rest : List Value} (hret : meth.sig.returnType = some .long) (hd : decode c.code pc = .ok (.lreturn, 1))
    (hc : cells ≤ C) (hs : slots ≤ S) (q : Q (some (.long z)) T.heap locs) : OGo p e below (OPost s Q C S) (T.setTop (mkF m pc Ls (.long z :: rest))) := by
  obtain ⟨fs, hr, hrun, hended, hW, hsame⟩ := X.leave (v := some (.long z)) (fun h => by rw [hret] at h; cases h) hk
  exact ⟨_, _, retOut X hx hret rfl (Or.inr (Or.inl ⟨rfl, rfl, _, rfl⟩)) hd hr, hrun, hended, _, _, rfl, q, ⟨_, rfl⟩, hW, hsame.mono hc hs⟩
theorem OGo.retR (X : Stand p l e R s m args below meth c T locs cells slots) (hx : p.tables.exec = Jvm.exec) (hk : meth.locks = false) {pc : Nat} {Ls : Array Slot} {w : Value} {t : FieldType} {rest : List Value} (hret : meth.sig.returnType = some t) (ht : t.isReference = true) (hw : w.isRef = true) (hd : decode c.code pc = .ok (.areturn, 1))
    (hc : cells ≤ C) (hs : slots ≤ S) (q : Q (some w) T.heap locs) : OGo p e below (OPost s Q C S) (T.setTop (mkF m pc Ls (w :: rest))) := by
  obtain ⟨fs, hr, hrun, hended, hW, hsame⟩ := X.leave (v := some w) (fun h => by rw [hret] at h; cases h) hk
  have hn : narrow t w = w := by rcases ref_cases hw with rfl | ⟨a, rfl⟩ <;> cases t <;> first | rfl | (simp [FieldType.isReference] at ht)
  exact ⟨_, _, retOut X hx hret hn (Or.inr (Or.inr (Or.inr (Or.inr ⟨rfl, ht, hw⟩)))) hd hr, hrun, hended, _, _, rfl, q, ⟨_, rfl⟩, hW, hsame.mono hc hs⟩
theorem OGo.retV (X : Stand p l e R s m args below meth c T locs cells slots) (hx : p.tables.exec = Jvm.exec) (hk : meth.locks = false) {pc : Nat} {Ls : Array Slot} (hret : meth.sig.returnType = none) (hd : decode c.code pc = .ok (.return_, 1))
    (hc : cells ≤ C) (hs : slots ≤ S) (q : Q none T.heap locs) : OGo p e below (OPost s Q C S) (T.setTop (mkF m pc Ls [])) := by
  obtain ⟨fs, hr, hrun, hended, hW, hsame⟩ := X.leave (v := none) (fun _ => rfl) hk
  exact ⟨_, _, X.returnOut hx hret hd hr, hrun, hended, _, _, rfl, q, ⟨_, rfl⟩, hW, hsame.mono hc hs⟩
end OwnFlow
end Jvm.RoadKit
namespace Jvm.Pilot.@@N@@
open Jvm Jvm.ClassFile Sem Op Lib Jvm.Free Jvm.Stand Jvm.LawKit Jvm.RoadKit Bundle Jvm.Pilot.@@N@@.Jvm.D
theorem d1_0 : decode prog_8_method_1_code 0 = .ok (.aload_n 0, 1) := by decide +kernel
theorem d1_1 : decode prog_8_method_1_code 1 = .ok (.invokespecial 1, 3) := by decide +kernel
theorem d1_4 : decode prog_8_method_1_code 4 = .ok (.return_, 1) := by decide +kernel
theorem pni : plainName "com/example/amphisbaena/amphisbaena/format/CheckBudget" = true := by first | (simp [plainName, overriddenIn]; done) | decide +kernel
theorem efi (m : MethodId) (x0 : Addr) : entryFrame m #[(.ref x0)] 1 = mkF m 0 #[.val (.ref x0)] [] := by first | (simp [entryFrame, mkF, argsToLocals, Value.category]; done) | rfl
def Qi (Z : State) (a : Addr) (h0 : Heap) (n0 : Nat) (v : Option Value) (h : Heap) (L : List Loc) : Prop := v = none ∧ Fr n0 L ∧ h = h0
set_option maxRecDepth 65536 in
set_option maxHeartbeats 40000000 in
theorem rmi (l : Launch) (Z : State) (a0 : Array Value) (hw : ∀ d ∈ tables_1, d.before a0 Z = true) (ws : List Jvm.Cond) (a : Addr) (h0 : Heap) (n0 : Nat) (Z0 : n0 ≤ h0.size) :
    MetFree l (⟨"com/example/amphisbaena/amphisbaena/format/CheckBudget", "<init>", "()V"⟩ : MethodName) (head1 (Jvm.Cond.code (⟨"com/example/amphisbaena/amphisbaena/format/CheckBudget", "<init>", "()V"⟩ : MethodName) prog_8_method_1_code 1 none :: ws) ({ frames := 1, cells := 0, slots := 0, locals := 12 } : Room)) (fun aQ UQ => aQ = #[(.ref a)] ∧ Z.Warmed39 UQ.vm ∧ UQ.heap = h0) (fun _ _ _ _ _ => True) (fun _ U o U' => ∃ v L, o = .returned v ∧ Qi Z a h0 n0 v U'.heap L ∧ FrameEnd U o U' L ({ frames := 1, cells := 0, slots := 0, locals := 12 } : Room).cells ({ frames := 1, cells := 0, slots := 0, locals := 12 } : Room).slots) := by
  refine MetFree.of_bodySF (plainFor_of_name pni) hisR ?_
  intro p e s m args below meth c s₁ Bd hml0 hP hK
  obtain ⟨rfl, hZ, hh⟩ := hP
  have hx := Bd.exec
  have hby := Bd.bytes
  have hml : c.maxLocals = 1 := hml0
  have hown : s.vm.findClass "com/example/amphisbaena/amphisbaena/format/CheckBudget" = some m.cls := findClass_of_methodNamed Bd.named
  have hnm := (name_of_methodNamed Bd.named Bd.method).1
  have X0 : Stand p l e ({ frames := 1, cells := 0, slots := 0, locals := 12 } : Room) s m #[(.ref a)] below meth c s₁ [] 0 0 := Stand.of_body Bd
  have e0 : s₁.heap = h0 := by rw [← hh, Bd.state]; rfl
  have N0 := Fr.nil n0
  show OGo p e below (OPost s (Qi Z a h0 n0) ({ frames := 1, cells := 0, slots := 0, locals := 12 } : Room).cells ({ frames := 1, cells := 0, slots := 0, locals := 12 } : Room).slots) (s₁.setTop (entryFrame m #[(.ref a)] 1))
  refine OGo.step (fun uK kK => castTop (efi m a) kK) ?_
  show OGo p e below _ (s₁.setTop (mkF m 0 #[.val (.ref a)] []))
  refine OGo.step (fun uK kK => XS.aloadN X0.here hx rfl (hb hby d1_0) rfl rfl kK) ?_
  show OGo p e below _ (s₁.setTop (mkF m 1 #[.val (.ref a)] [(.ref a)]))
  obtain ⟨T1, X1, e1, st1⟩ := initO X0 hx hZ hown (hw _ (List.mem_of_getElem? (i := 6) rfl)) (hw _ (List.mem_of_getElem? (i := 7) rfl)) (hw _ (List.mem_of_getElem? (i := 8) rfl)) e0 (g := (mkF m 1 #[.val (.ref a)] [(.ref a)])) rfl (by rw [hml]; rfl) rfl (hb hby d1_1) (by decide) (W := 0) (by show 2 * 0 + _ ≤ _; exact Nat.le_of_eq rfl) (by decide)
  refine OGo.step (fun uK kK => st1 uK kK) ?_
  show OGo p e below _ (T1.setTop (mkF m 4 #[.val (.ref a)] []))
  exact OGo.retV X1 hx Bd.notSynchronized Bd.returns (hb hby d1_4) (by decide) (by decide) (by show Qi Z a h0 n0 _ T1.heap _; rw [e1]; exact ⟨rfl, N0, rfl⟩)
theorem d3_0 : decode prog_8_method_3_code 0 = .ok (.aload_n 0, 1) := by decide +kernel
theorem d3_1 : decode prog_8_method_3_code 1 = .ok (.dup, 1) := by decide +kernel
theorem d3_2 : decode prog_8_method_3_code 2 = .ok (.getfield 13, 3) := by decide +kernel
theorem d3_5 : decode prog_8_method_3_code 5 = .ok (.iload_n 1, 1) := by decide +kernel
theorem d3_6 : decode prog_8_method_3_code 6 = .ok (.i2l, 1) := by decide +kernel
theorem d3_7 : decode prog_8_method_3_code 7 = .ok (.ladd, 1) := by decide +kernel
theorem d3_8 : decode prog_8_method_3_code 8 = .ok (.putfield 13, 3) := by decide +kernel
theorem d3_11 : decode prog_8_method_3_code 11 = .ok (.return_, 1) := by decide +kernel
theorem pn3 : plainName "com/example/amphisbaena/amphisbaena/format/CheckBudget" = true := by first | (simp [plainName, overriddenIn]; done) | decide +kernel
theorem ef3 (m : MethodId) (x0 : Addr) (x1 : Int32) : entryFrame m #[(.ref x0), (.int x1)] 2 = mkF m 0 #[.val (.ref x0), .val (.int x1)] [] := by first | (simp [entryFrame, mkF, argsToLocals, Value.category]; done) | rfl
def Q3 (Z : State) (a : Addr) (p2 : Int32) (st : Int64) (dr : Int64) (h0 : Heap) (n0 : Nat) (v : Option Value) (h : Heap) (L : List Loc) : Prop := v = none ∧ Fr n0 L ∧ Keep h0 h [a] ∧ Fld Z h a "com/example/amphisbaena/amphisbaena/format/CheckBudget" "steps" "J" (.long (st + (p2.toInt64))) ∧ Fld Z h a "com/example/amphisbaena/amphisbaena/format/CheckBudget" "drawn" "J" (.long dr)
set_option maxRecDepth 65536 in
set_option maxHeartbeats 40000000 in
theorem rm3 (l : Launch) (Z : State) (a0 : Array Value) (hw : ∀ d ∈ tables_1, d.before a0 Z = true) (ws : List Jvm.Cond) (a : Addr) (p2 : Int32) (st : Int64) (dr : Int64) (h0 : Heap) (n0 : Nat) (Z0 : n0 ≤ h0.size) (Fs : Fld Z h0 a "com/example/amphisbaena/amphisbaena/format/CheckBudget" "steps" "J" (.long st)) (Fd : Fld Z h0 a "com/example/amphisbaena/amphisbaena/format/CheckBudget" "drawn" "J" (.long dr)) (Ex : Exa Z h0 a "com/example/amphisbaena/amphisbaena/format/CheckBudget") (ga : n0 ≤ a) :
    MetFree l (⟨"com/example/amphisbaena/amphisbaena/format/CheckBudget", "take", "(I)V"⟩ : MethodName) (head1 (Jvm.Cond.code (⟨"com/example/amphisbaena/amphisbaena/format/CheckBudget", "take", "(I)V"⟩ : MethodName) prog_8_method_3_code 2 none :: ws) ({ frames := 0, cells := 0, slots := 0, locals := 0 } : Room)) (fun aQ UQ => aQ = #[(.ref a), (.int p2)] ∧ Z.Warmed39 UQ.vm ∧ UQ.heap = h0) (fun _ _ _ _ _ => True) (fun _ U o U' => ∃ v L, o = .returned v ∧ Q3 Z a p2 st dr h0 n0 v U'.heap L ∧ FrameEnd U o U' L ({ frames := 0, cells := 0, slots := 0, locals := 0 } : Room).cells ({ frames := 0, cells := 0, slots := 0, locals := 0 } : Room).slots) := by
  refine MetFree.of_bodySF (plainFor_of_name pn3) hisR ?_
  intro p e s m args below meth c s₁ Bd hml0 hP hK
  obtain ⟨rfl, hZ, hh⟩ := hP
  have hx := Bd.exec
  have hby := Bd.bytes
  have hml : c.maxLocals = 2 := hml0
  have hown : s.vm.findClass "com/example/amphisbaena/amphisbaena/format/CheckBudget" = some m.cls := findClass_of_methodNamed Bd.named
  have hnm := (name_of_methodNamed Bd.named Bd.method).1
  have X0 : Stand p l e ({ frames := 0, cells := 0, slots := 0, locals := 0 } : Room) s m #[(.ref a), (.int p2)] below meth c s₁ [] 0 0 := Stand.of_body Bd
  have e0 : s₁.heap = h0 := by rw [← hh, Bd.state]; rfl
  have N0 := Fr.nil n0
  show OGo p e below (OPost s (Q3 Z a p2 st dr h0 n0) ({ frames := 0, cells := 0, slots := 0, locals := 0 } : Room).cells ({ frames := 0, cells := 0, slots := 0, locals := 0 } : Room).slots) (s₁.setTop (entryFrame m #[(.ref a), (.int p2)] 2))
  refine OGo.step (fun uK kK => castTop (ef3 m a p2) kK) ?_
  show OGo p e below _ (s₁.setTop (mkF m 0 #[.val (.ref a), .val (.int p2)] []))
  refine OGo.step (fun uK kK => XS.aloadN X0.here hx rfl (hb hby d3_0) rfl rfl kK) ?_
  show OGo p e below _ (s₁.setTop (mkF m 1 #[.val (.ref a), .val (.int p2)] [(.ref a)]))
  refine OGo.step (fun uK kK => XS.dup X0.here hx rfl (hb hby d3_1) rfl rfl kK) ?_
  show OGo p e below _ (s₁.setTop (mkF m 2 #[.val (.ref a), .val (.int p2)] [(.ref a), (.ref a)]))
  obtain ⟨T1, X1, e1, st1⟩ := getF X0 hx hZ hown (host := "") (Or.inl (hw _ (List.mem_of_getElem? (i := 16) rfl))) Via.refl e0 Fs (g := (mkF m 2 #[.val (.ref a), .val (.int p2)] [(.ref a), (.ref a)])) rfl rfl (hb hby d3_2)
  refine OGo.step (fun uK kK => st1 uK kK) ?_
  show OGo p e below _ (T1.setTop (mkF m 5 #[.val (.ref a), .val (.int p2)] [(.long st), (.ref a)]))
  refine OGo.step (fun uK kK => XS.iloadN X1.here hx rfl (hb hby d3_5) rfl kK) ?_
  show OGo p e below _ (T1.setTop (mkF m 6 #[.val (.ref a), .val (.int p2)] [(.int p2), (.long st), (.ref a)]))
  refine OGo.step (fun uK kK => XS.i2l X1.here hx rfl (hb hby d3_6) rfl kK) ?_
  show OGo p e below _ (T1.setTop (mkF m 7 #[.val (.ref a), .val (.int p2)] [(.long (p2.toInt64)), (.long st), (.ref a)]))
  refine OGo.step (fun uK kK => XS.ladd X1.here hx rfl (hb hby d3_7) rfl kK) ?_
  show OGo p e below _ (T1.setTop (mkF m 8 #[.val (.ref a), .val (.int p2)] [(.long (st + (p2.toInt64))), (.ref a)]))
  obtain ⟨T2, h2, X2, e2, W2, st2⟩ := putF X1 hx hZ hown (host := "") (Or.inl (hw _ (List.mem_of_getElem? (i := 16) rfl))) Via.refl e1 Fs Ex (Or.inl (hw _ (List.mem_of_getElem? (i := 17) rfl))) (hw _ (List.mem_of_getElem? (i := 1) rfl)) (ty := .long) (by decide) rfl rfl (g := (mkF m 8 #[.val (.ref a), .val (.int p2)] [(.long (st + (p2.toInt64))), (.ref a)])) rfl rfl (hb hby d3_8)
  have Fw2 := Fs.same W2
  have Fd_4 := (Fd.other W2 (Or.inr (slot_ne (Or.inl (hw _ (List.mem_of_getElem? (i := 25) rfl))) (Or.inl (hw _ (List.mem_of_getElem? (i := 17) rfl))) (by decide) (t := .long) (t' := .long) (by decide) (by decide))))
  have Ex_5 := (Ex.wr W2)
  have ZS2 : n0 ≤ h2.size := Nat.le_trans Z0 (Keep.of_wr W2).1
  have KC2 : Keep h0 h2 [a] := (Keep.refl h0 [a]).wr W2 (Or.inl (List.mem_of_getElem? (i := 0) rfl))
  have N2 := Fr.snoc X2 N0 ga
  refine OGo.step (fun uK kK => st2 uK kK) ?_
  show OGo p e below _ (T2.setTop (mkF m 11 #[.val (.ref a), .val (.int p2)] []))
  exact OGo.retV X2 hx Bd.notSynchronized Bd.returns (hb hby d3_11) (by decide) (by decide) (by show Q3 Z a p2 st dr h0 n0 _ T2.heap _; rw [e2]; exact ⟨rfl, N2, KC2, Fw2, Fd_4⟩)
theorem d4_0 : decode prog_8_method_4_code 0 = .ok (.ldc2_w 24, 3) := by decide +kernel
theorem d4_3 : decode prog_8_method_4_code 3 = .ok (.aload_n 0, 1) := by decide +kernel
theorem d4_4 : decode prog_8_method_4_code 4 = .ok (.getfield 7, 3) := by decide +kernel
theorem d4_7 : decode prog_8_method_4_code 7 = .ok (.lsub, 1) := by decide +kernel
theorem d4_8 : decode prog_8_method_4_code 8 = .ok (.lreturn, 1) := by decide +kernel
theorem pn4 : plainName "com/example/amphisbaena/amphisbaena/format/CheckBudget" = true := by first | (simp [plainName, overriddenIn]; done) | decide +kernel
theorem ef4 (m : MethodId) (x0 : Addr) : entryFrame m #[(.ref x0)] 1 = mkF m 0 #[.val (.ref x0)] [] := by first | (simp [entryFrame, mkF, argsToLocals, Value.category]; done) | rfl
def Q4 (Z : State) (a : Addr) (dr : Int64) (h0 : Heap) (n0 : Nat) (v : Option Value) (h : Heap) (L : List Loc) : Prop := v = some (.long ((10000000 : Int64) - dr)) ∧ Fr n0 L ∧ h = h0
set_option maxRecDepth 65536 in
set_option maxHeartbeats 40000000 in
theorem rm4 (l : Launch) (Z : State) (a0 : Array Value) (hw : ∀ d ∈ tables_1, d.before a0 Z = true) (ws : List Jvm.Cond) (a : Addr) (dr : Int64) (h0 : Heap) (n0 : Nat) (Z0 : n0 ≤ h0.size) (Fd : Fld Z h0 a "com/example/amphisbaena/amphisbaena/format/CheckBudget" "drawn" "J" (.long dr)) :
    MetFree l (⟨"com/example/amphisbaena/amphisbaena/format/CheckBudget", "limit", "()J"⟩ : MethodName) (head1 (Jvm.Cond.code (⟨"com/example/amphisbaena/amphisbaena/format/CheckBudget", "limit", "()J"⟩ : MethodName) prog_8_method_4_code 1 (some .long) :: ws) ({ frames := 0, cells := 0, slots := 0, locals := 0 } : Room)) (fun aQ UQ => aQ = #[(.ref a)] ∧ Z.Warmed39 UQ.vm ∧ UQ.heap = h0) (fun _ _ _ _ _ => True) (fun _ U o U' => ∃ v L, o = .returned v ∧ Q4 Z a dr h0 n0 v U'.heap L ∧ FrameEnd U o U' L ({ frames := 0, cells := 0, slots := 0, locals := 0 } : Room).cells ({ frames := 0, cells := 0, slots := 0, locals := 0 } : Room).slots) := by
  refine MetFree.of_bodySF (plainFor_of_name pn4) hisR ?_
  intro p e s m args below meth c s₁ Bd hml0 hP hK
  obtain ⟨rfl, hZ, hh⟩ := hP
  have hx := Bd.exec
  have hby := Bd.bytes
  have hml : c.maxLocals = 1 := hml0
  have hown : s.vm.findClass "com/example/amphisbaena/amphisbaena/format/CheckBudget" = some m.cls := findClass_of_methodNamed Bd.named
  have hnm := (name_of_methodNamed Bd.named Bd.method).1
  have X0 : Stand p l e ({ frames := 0, cells := 0, slots := 0, locals := 0 } : Room) s m #[(.ref a)] below meth c s₁ [] 0 0 := Stand.of_body Bd
  have e0 : s₁.heap = h0 := by rw [← hh, Bd.state]; rfl
  have N0 := Fr.nil n0
  show OGo p e below (OPost s (Q4 Z a dr h0 n0) ({ frames := 0, cells := 0, slots := 0, locals := 0 } : Room).cells ({ frames := 0, cells := 0, slots := 0, locals := 0 } : Room).slots) (s₁.setTop (entryFrame m #[(.ref a)] 1))
  refine OGo.step (fun uK kK => castTop (ef4 m a) kK) ?_
  show OGo p e below _ (s₁.setTop (mkF m 0 #[.val (.ref a)] []))
  refine OGo.step (fun uK kK => X0.ldc2J hx hown (mvT hZ (hw _ (List.mem_of_getElem? (i := 23) rfl))) rfl (hb hby d4_0) kK) ?_
  show OGo p e below _ (s₁.setTop (mkF m 3 #[.val (.ref a)] [(.long (10000000 : Int64))]))
  refine OGo.step (fun uK kK => XS.aloadN X0.here hx rfl (hb hby d4_3) rfl rfl kK) ?_
  show OGo p e below _ (s₁.setTop (mkF m 4 #[.val (.ref a)] [(.ref a), (.long (10000000 : Int64))]))
  obtain ⟨T1, X1, e1, st1⟩ := getF X0 hx hZ hown (host := "") (Or.inl (hw _ (List.mem_of_getElem? (i := 24) rfl))) Via.refl e0 Fd (g := (mkF m 4 #[.val (.ref a)] [(.ref a), (.long (10000000 : Int64))])) rfl rfl (hb hby d4_4)
  refine OGo.step (fun uK kK => st1 uK kK) ?_
  show OGo p e below _ (T1.setTop (mkF m 7 #[.val (.ref a)] [(.long dr), (.long (10000000 : Int64))]))
  refine OGo.step (fun uK kK => XS.lsub X1.here hx rfl (hb hby d4_7) rfl kK) ?_
  show OGo p e below _ (T1.setTop (mkF m 8 #[.val (.ref a)] [(.long ((10000000 : Int64) - dr))]))
  exact OGo.retJ X1 hx Bd.notSynchronized Bd.returns (hb hby d4_8) (by decide) (by decide) (by show Q4 Z a dr h0 n0 _ T1.heap _; rw [e1]; exact ⟨rfl, N0, rfl⟩)
theorem d5_0 : decode prog_8_method_5_code 0 = .ok (.aload_n 0, 1) := by decide +kernel
theorem d5_1 : decode prog_8_method_5_code 1 = .ok (.getfield 13, 3) := by decide +kernel
theorem d5_4 : decode prog_8_method_5_code 4 = .ok (.aload_n 0, 1) := by decide +kernel
theorem d5_5 : decode prog_8_method_5_code 5 = .ok (.invokevirtual 26, 3) := by decide +kernel
theorem d5_8 : decode prog_8_method_5_code 8 = .ok (.lcmp, 1) := by decide +kernel
theorem d5_9 : decode prog_8_method_5_code 9 = .ok (.ifCond .le 7, 3) := by decide +kernel
theorem d5_12 : decode prog_8_method_5_code 12 = .ok (.iconst 1, 1) := by decide +kernel
theorem d5_13 : decode prog_8_method_5_code 13 = .ok (.goto 4, 3) := by decide +kernel
theorem d5_16 : decode prog_8_method_5_code 16 = .ok (.iconst 0, 1) := by decide +kernel
theorem d5_17 : decode prog_8_method_5_code 17 = .ok (.ireturn, 1) := by decide +kernel
theorem pn5 : plainName "com/example/amphisbaena/amphisbaena/format/CheckBudget" = true := by first | (simp [plainName, overriddenIn]; done) | decide +kernel
theorem pd5_0 : parseMethodDescriptor "()J" = some ⟨[], some .long⟩ := by decide +kernel
theorem ef5 (m : MethodId) (x0 : Addr) : entryFrame m #[(.ref x0)] 1 = mkF m 0 #[.val (.ref x0)] [] := by first | (simp [entryFrame, mkF, argsToLocals, Value.category]; done) | rfl
def Q5 (Z : State) (a : Addr) (st : Int64) (dr : Int64) (h0 : Heap) (n0 : Nat) (v : Option Value) (h : Heap) (L : List Loc) : Prop := v = some (.int (nar .boolean (if ((10000000 : Int64) - dr) < st then (1 : Int32) else (0 : Int32)))) ∧ Fr n0 L ∧ h = h0
set_option maxRecDepth 65536 in
set_option maxHeartbeats 40000000 in
theorem rm5 (l : Launch) (Z : State) (a0 : Array Value) (hw : ∀ d ∈ tables_1, d.before a0 Z = true) (ws : List Jvm.Cond) (a : Addr) (st : Int64) (dr : Int64) (h0 : Heap) (n0 : Nat) (Z0 : n0 ≤ h0.size) (Fs : Fld Z h0 a "com/example/amphisbaena/amphisbaena/format/CheckBudget" "steps" "J" (.long st)) (Fd : Fld Z h0 a "com/example/amphisbaena/amphisbaena/format/CheckBudget" "drawn" "J" (.long dr)) (Ex : Exa Z h0 a "com/example/amphisbaena/amphisbaena/format/CheckBudget") :
    MetFree l (⟨"com/example/amphisbaena/amphisbaena/format/CheckBudget", "spent", "()Z"⟩ : MethodName) (head1 (Jvm.Cond.code (⟨"com/example/amphisbaena/amphisbaena/format/CheckBudget", "spent", "()Z"⟩ : MethodName) prog_8_method_5_code 1 (some .boolean) :: ws) ({ frames := 1, cells := 0, slots := 0, locals := 14 } : Room)) (fun aQ UQ => aQ = #[(.ref a)] ∧ Z.Warmed39 UQ.vm ∧ UQ.heap = h0) (fun _ _ _ _ _ => True) (fun _ U o U' => ∃ v L, o = .returned v ∧ Q5 Z a st dr h0 n0 v U'.heap L ∧ FrameEnd U o U' L ({ frames := 1, cells := 0, slots := 0, locals := 14 } : Room).cells ({ frames := 1, cells := 0, slots := 0, locals := 14 } : Room).slots) := by
  refine MetFree.of_bodySF (plainFor_of_name pn5) hisR ?_
  intro p e s m args below meth c s₁ Bd hml0 hP hK
  obtain ⟨rfl, hZ, hh⟩ := hP
  have hx := Bd.exec
  have hby := Bd.bytes
  have hml : c.maxLocals = 1 := hml0
  have hown : s.vm.findClass "com/example/amphisbaena/amphisbaena/format/CheckBudget" = some m.cls := findClass_of_methodNamed Bd.named
  have hnm := (name_of_methodNamed Bd.named Bd.method).1
  have X0 : Stand p l e ({ frames := 1, cells := 0, slots := 0, locals := 14 } : Room) s m #[(.ref a)] below meth c s₁ [] 0 0 := Stand.of_body Bd
  have e0 : s₁.heap = h0 := by rw [← hh, Bd.state]; rfl
  have N0 := Fr.nil n0
  show OGo p e below (OPost s (Q5 Z a st dr h0 n0) ({ frames := 1, cells := 0, slots := 0, locals := 14 } : Room).cells ({ frames := 1, cells := 0, slots := 0, locals := 14 } : Room).slots) (s₁.setTop (entryFrame m #[(.ref a)] 1))
  refine OGo.step (fun uK kK => castTop (ef5 m a) kK) ?_
  show OGo p e below _ (s₁.setTop (mkF m 0 #[.val (.ref a)] []))
  refine OGo.step (fun uK kK => XS.aloadN X0.here hx rfl (hb hby d5_0) rfl rfl kK) ?_
  show OGo p e below _ (s₁.setTop (mkF m 1 #[.val (.ref a)] [(.ref a)]))
  obtain ⟨T1, X1, e1, st1⟩ := getF X0 hx hZ hown (host := "") (Or.inl (hw _ (List.mem_of_getElem? (i := 16) rfl))) Via.refl e0 Fs (g := (mkF m 1 #[.val (.ref a)] [(.ref a)])) rfl rfl (hb hby d5_1)
  refine OGo.step (fun uK kK => st1 uK kK) ?_
  show OGo p e below _ (T1.setTop (mkF m 4 #[.val (.ref a)] [(.long st)]))
  refine OGo.step (fun uK kK => XS.aloadN X1.here hx rfl (hb hby d5_4) rfl rfl kK) ?_
  show OGo p e below _ (T1.setTop (mkF m 5 #[.val (.ref a)] [(.ref a), (.long st)]))
  obtain ⟨cq2, kq2, q2a, q2b, q2c⟩ := isOf hZ e1 Ex
  obtain ⟨_, _, ⟨T2, Lq2, kq_2, nq_2⟩, -, X2, ⟨Lc2, hQ2, lq2, yq2, zq2⟩, st2⟩ := X1.virtualBack hx (y := (⟨"com/example/amphisbaena/amphisbaena/format/CheckBudget", "limit", "()J"⟩ : MethodName)) (z := (⟨"com/example/amphisbaena/amphisbaena/format/CheckBudget", "limit", "()J"⟩ : MethodName)) hown (mvT hZ (hw _ (List.mem_of_getElem? (i := 31) rfl))) (mvT hZ (hw _ (List.mem_of_getElem? (i := 19) rfl))) (notFace_of_selects (args := #[]) (mvT hZ (hw _ (List.mem_of_getElem? (i := 21) rfl)))) (mvT hZ (hw _ (List.mem_of_getElem? (i := 21) rfl))) (mvT hZ (hw _ (List.mem_of_getElem? (i := 20) rfl))) (by decide) (backOf (W := 2) (rm4 l Z a0 hw [] a dr h0 n0 Z0 Fd) hZ (hw _ (List.mem_of_getElem? (i := 22) rfl)) (hw _ (List.mem_of_getElem? (i := 2) rfl)) (by decide) (by decide)) q2a q2c (g := (mkF m 5 #[.val (.ref a)] [(.ref a), (.long st)])) rfl (by rw [hml]; rfl) (Steps.refl _) (argsL := []) (rest := [(.long st)]) (lenOf pd5_0 rfl) rfl (by show 2 * 0 + _ ≤ _; exact Nat.le_of_eq rfl) (hb hby d5_5) (fun _ _ => ⟨rfl, e1, (by decide : 0 + 0 ≤ _), (by decide : 0 + 0 ≤ _)⟩)
  dsimp only [Pt.U, Pt.locs, Pt.cells, Pt.slots] at X2 lq2 yq2 zq2 st2 hQ2
  subst lq2 yq2 zq2
  obtain ⟨rfl, Nq2, e2⟩ := hQ2
  have N2 := Fr.app N0 Nq2
  refine OGo.steps st2 ?_
  show OGo p e below _ (T2.setTop (mkF m 8 #[.val (.ref a)] [(.long ((10000000 : Int64) - dr)), (.long st)]))
  refine OGo.step (fun uK kK => XS.lcmp X2.here hx rfl (hb hby d5_8) rfl kK) ?_
  show OGo p e below _ (T2.setTop (mkF m 9 #[.val (.ref a)] [(.int (lcmpW st ((10000000 : Int64) - dr)))]))
  refine OGo.step (t' := T2.setTop (mkF m 17 #[.val (.ref a)] [(.int (if ((10000000 : Int64) - dr) < st then (1 : Int32) else (0 : Int32)))])) (fun uK kK => ?_) ?_
  · show Steps p.tables e below (T2.setTop (mkF m 9 #[.val (.ref a)] [(.int (lcmpW st ((10000000 : Int64) - dr)))])) _
    by_cases hm9_3 : ((10000000 : Int64) - dr) < st
    · try rw [if_pos hm9_3] at kK
      refine XS.ifNo X2.here hx rfl (hb hby d5_9) rfl ((if0 _ _).trans (tlt ((lw_gt _ _).mpr hm9_3)).2.2.2) ?_
      refine XS.iconst X2.here hx rfl (hb hby d5_12) ?_
      show Steps p.tables e below (T2.setTop (mkF m 13 #[.val (.ref a)] [(.int (1 : Int32))])) _
      refine XS.goto X2.here hx rfl (pc0 := 13) (pc' := 17) rfl (hb hby d5_13) (by decide) (by decide) ?_
      show Steps p.tables e below (T2.setTop (mkF m 17 #[.val (.ref a)] [(.int (1 : Int32))])) _
      exact kK
    · try rw [if_neg hm9_3] at kK
      refine XS.ifYes X2.here hx rfl (pc0 := 9) (pc' := 16) rfl (hb hby d5_9) rfl ((if0 _ _).trans (flt (fun q => hm9_3 ((lw_gt _ _).mp q))).2.2.2) (by decide) (by decide) ?_
      refine XS.iconst X2.here hx rfl (hb hby d5_16) ?_
      show Steps p.tables e below (T2.setTop (mkF m 17 #[.val (.ref a)] [(.int (0 : Int32))])) _
      exact kK
  show OGo p e below _ (T2.setTop (mkF m 17 #[.val (.ref a)] [(.int (if ((10000000 : Int64) - dr) < st then (1 : Int32) else (0 : Int32)))]))
  exact OGo.retN X2 hx Bd.notSynchronized (t := .boolean) Bd.returns (by simp) (hb hby d5_17) (by decide) (by decide) (by show Q5 Z a st dr h0 n0 _ T2.heap _; rw [e2]; exact ⟨rfl, N2, rfl⟩)
theorem d6_0 : decode jdk_29_method_66_code 0 = .ok (.lload_n 0, 1) := by decide +kernel
theorem d6_1 : decode jdk_29_method_66_code 1 = .ok (.lload_n 2, 1) := by decide +kernel
theorem d6_2 : decode jdk_29_method_66_code 2 = .ok (.lcmp, 1) := by decide +kernel
theorem d6_3 : decode jdk_29_method_66_code 3 = .ok (.ifCond .lt 7, 3) := by decide +kernel
theorem d6_6 : decode jdk_29_method_66_code 6 = .ok (.lload_n 0, 1) := by decide +kernel
theorem d6_7 : decode jdk_29_method_66_code 7 = .ok (.goto 4, 3) := by decide +kernel
theorem d6_10 : decode jdk_29_method_66_code 10 = .ok (.lload_n 2, 1) := by decide +kernel
theorem d6_11 : decode jdk_29_method_66_code 11 = .ok (.lreturn, 1) := by decide +kernel
theorem ef6 (m : MethodId) (x0 : Int64) (x1 : Int64) : entryFrame m #[(.long x0), (.long x1)] 4 = mkF m 0 #[.val (.long x0), .second, .val (.long x1), .second] [] := by first | (simp [entryFrame, mkF, argsToLocals, Value.category]; done) | rfl
def Q6 (Z : State) (q1 : Int64) (q2 : Int64) (h0 : Heap) (n0 : Nat) (v : Option Value) (h : Heap) (L : List Loc) : Prop := v = some (.long (if q1 < q2 then q2 else q1)) ∧ Fr n0 L ∧ h = h0
set_option maxRecDepth 65536 in
set_option maxHeartbeats 40000000 in
theorem rm6 (l : Launch) (Z : State) (a0 : Array Value) (hw : ∀ d ∈ tables_1, d.before a0 Z = true) (ws : List Jvm.Cond) (q1 : Int64) (q2 : Int64) (h0 : Heap) (n0 : Nat) (Z0 : n0 ≤ h0.size) :
    MetFree l (⟨"java/lang/Math", "max", "(JJ)J"⟩ : MethodName) (head1 (Jvm.Cond.code (⟨"java/lang/Math", "max", "(JJ)J"⟩ : MethodName) jdk_29_method_66_code 4 (some .long) :: ws) ({ frames := 0, cells := 0, slots := 0, locals := 0 } : Room)) (fun aQ UQ => aQ = #[(.long q1), (.long q2)] ∧ Z.Warmed39 UQ.vm ∧ UQ.heap = h0) (fun _ _ _ _ _ => True) (fun _ U o U' => ∃ v L, o = .returned v ∧ Q6 Z q1 q2 h0 n0 v U'.heap L ∧ FrameEnd U o U' L ({ frames := 0, cells := 0, slots := 0, locals := 0 } : Room).cells ({ frames := 0, cells := 0, slots := 0, locals := 0 } : Room).slots) := by
  refine MetFree.of_bodySF (Jvm.Free.JP.mathPlain rfl (by decide +kernel)) hisR ?_
  intro p e s m args below meth c s₁ Bd hml0 hP hK
  obtain ⟨rfl, hZ, hh⟩ := hP
  have hx := Bd.exec
  have hby := Bd.bytes
  have hml : c.maxLocals = 4 := hml0
  have hown : s.vm.findClass "java/lang/Math" = some m.cls := findClass_of_methodNamed Bd.named
  have hnm := (name_of_methodNamed Bd.named Bd.method).1
  have X0 : Stand p l e ({ frames := 0, cells := 0, slots := 0, locals := 0 } : Room) s m #[(.long q1), (.long q2)] below meth c s₁ [] 0 0 := Stand.of_body Bd
  have e0 : s₁.heap = h0 := by rw [← hh, Bd.state]; rfl
  have N0 := Fr.nil n0
  show OGo p e below (OPost s (Q6 Z q1 q2 h0 n0) ({ frames := 0, cells := 0, slots := 0, locals := 0 } : Room).cells ({ frames := 0, cells := 0, slots := 0, locals := 0 } : Room).slots) (s₁.setTop (entryFrame m #[(.long q1), (.long q2)] 4))
  refine OGo.step (fun uK kK => castTop (ef6 m q1 q2) kK) ?_
  show OGo p e below _ (s₁.setTop (mkF m 0 #[.val (.long q1), .second, .val (.long q2), .second] []))
  refine OGo.step (fun uK kK => XS.lloadN X0.here hx rfl (hb hby d6_0) rfl kK) ?_
  show OGo p e below _ (s₁.setTop (mkF m 1 #[.val (.long q1), .second, .val (.long q2), .second] [(.long q1)]))
  refine OGo.step (fun uK kK => XS.lloadN X0.here hx rfl (hb hby d6_1) rfl kK) ?_
  show OGo p e below _ (s₁.setTop (mkF m 2 #[.val (.long q1), .second, .val (.long q2), .second] [(.long q2), (.long q1)]))
  refine OGo.step (fun uK kK => XS.lcmp X0.here hx rfl (hb hby d6_2) rfl kK) ?_
  show OGo p e below _ (s₁.setTop (mkF m 3 #[.val (.long q1), .second, .val (.long q2), .second] [(.int (lcmpW q1 q2))]))
  refine OGo.step (t' := s₁.setTop (mkF m 11 #[.val (.long q1), .second, .val (.long q2), .second] [(.long (if q1 < q2 then q2 else q1))])) (fun uK kK => ?_) ?_
  · show Steps p.tables e below (s₁.setTop (mkF m 3 #[.val (.long q1), .second, .val (.long q2), .second] [(.int (lcmpW q1 q2))])) _
    by_cases hm3_1 : q1 < q2
    · try rw [if_pos hm3_1] at kK
      refine XS.ifYes X0.here hx rfl (pc0 := 3) (pc' := 10) rfl (hb hby d6_3) rfl ((if0 _ _).trans (tlt ((lw_lt _ _).mpr hm3_1)).1) (by decide) (by decide) ?_
      refine XS.lloadN X0.here hx rfl (hb hby d6_10) rfl ?_
      show Steps p.tables e below (s₁.setTop (mkF m 11 #[.val (.long q1), .second, .val (.long q2), .second] [(.long q2)])) _
      exact kK
    · try rw [if_neg hm3_1] at kK
      refine XS.ifNo X0.here hx rfl (hb hby d6_3) rfl ((if0 _ _).trans (flt (fun q => hm3_1 ((lw_lt _ _).mp q))).1) ?_
      refine XS.lloadN X0.here hx rfl (hb hby d6_6) rfl ?_
      show Steps p.tables e below (s₁.setTop (mkF m 7 #[.val (.long q1), .second, .val (.long q2), .second] [(.long q1)])) _
      refine XS.goto X0.here hx rfl (pc0 := 7) (pc' := 11) rfl (hb hby d6_7) (by decide) (by decide) ?_
      show Steps p.tables e below (s₁.setTop (mkF m 11 #[.val (.long q1), .second, .val (.long q2), .second] [(.long q1)])) _
      exact kK
  show OGo p e below _ (s₁.setTop (mkF m 11 #[.val (.long q1), .second, .val (.long q2), .second] [(.long (if q1 < q2 then q2 else q1))]))
  exact OGo.retJ X0 hx Bd.notSynchronized Bd.returns (hb hby d6_11) (by decide) (by decide) (by show Q6 Z q1 q2 h0 n0 _ s₁.heap _; rw [e0]; exact ⟨rfl, N0, rfl⟩)
theorem d7_0 : decode prog_8_method_2_code 0 = .ok (.aload_n 0, 1) := by decide +kernel
theorem d7_1 : decode prog_8_method_2_code 1 = .ok (.dup, 1) := by decide +kernel
theorem d7_2 : decode prog_8_method_2_code 2 = .ok (.getfield 7, 3) := by decide +kernel
theorem d7_5 : decode prog_8_method_2_code 5 = .ok (.lconst 0, 1) := by decide +kernel
theorem d7_6 : decode prog_8_method_2_code 6 = .ok (.aload_n 0, 1) := by decide +kernel
theorem d7_7 : decode prog_8_method_2_code 7 = .ok (.getfield 13, 3) := by decide +kernel
theorem d7_10 : decode prog_8_method_2_code 10 = .ok (.ldc2_w 16, 3) := by decide +kernel
theorem d7_13 : decode prog_8_method_2_code 13 = .ok (.lsub, 1) := by decide +kernel
theorem d7_14 : decode prog_8_method_2_code 14 = .ok (.invokestatic 18, 3) := by decide +kernel
theorem d7_17 : decode prog_8_method_2_code 17 = .ok (.ladd, 1) := by decide +kernel
theorem d7_18 : decode prog_8_method_2_code 18 = .ok (.putfield 7, 3) := by decide +kernel
theorem d7_21 : decode prog_8_method_2_code 21 = .ok (.aload_n 0, 1) := by decide +kernel
theorem d7_22 : decode prog_8_method_2_code 22 = .ok (.lconst 0, 1) := by decide +kernel
theorem d7_23 : decode prog_8_method_2_code 23 = .ok (.putfield 13, 3) := by decide +kernel
theorem d7_26 : decode prog_8_method_2_code 26 = .ok (.return_, 1) := by decide +kernel
theorem pn7 : plainName "com/example/amphisbaena/amphisbaena/format/CheckBudget" = true := by first | (simp [plainName, overriddenIn]; done) | decide +kernel
theorem pd7_0 : parseMethodDescriptor "(JJ)J" = some ⟨[.long, .long], some .long⟩ := by decide +kernel
theorem ef7 (m : MethodId) (x0 : Addr) : entryFrame m #[(.ref x0)] 1 = mkF m 0 #[.val (.ref x0)] [] := by first | (simp [entryFrame, mkF, argsToLocals, Value.category]; done) | rfl
def Q7 (Z : State) (a : Addr) (st : Int64) (dr : Int64) (h0 : Heap) (n0 : Nat) (v : Option Value) (h : Heap) (L : List Loc) : Prop := v = none ∧ Fr n0 L ∧ Keep h0 h [a] ∧ Fld Z h a "com/example/amphisbaena/amphisbaena/format/CheckBudget" "steps" "J" (.long (0 : Int64)) ∧ Fld Z h a "com/example/amphisbaena/amphisbaena/format/CheckBudget" "drawn" "J" (.long (dr + (if (0 : Int64) < (st - (1000000 : Int64)) then (st - (1000000 : Int64)) else (0 : Int64))))
set_option maxRecDepth 65536 in
set_option maxHeartbeats 40000000 in
theorem rm7 (l : Launch) (Z : State) (a0 : Array Value) (hw : ∀ d ∈ tables_1, d.before a0 Z = true) (ws : List Jvm.Cond) (a : Addr) (st : Int64) (dr : Int64) (h0 : Heap) (n0 : Nat) (Z0 : n0 ≤ h0.size) (Fs : Fld Z h0 a "com/example/amphisbaena/amphisbaena/format/CheckBudget" "steps" "J" (.long st)) (Fd : Fld Z h0 a "com/example/amphisbaena/amphisbaena/format/CheckBudget" "drawn" "J" (.long dr)) (Ex : Exa Z h0 a "com/example/amphisbaena/amphisbaena/format/CheckBudget") (ga : n0 ≤ a) :
    MetFree l (⟨"com/example/amphisbaena/amphisbaena/format/CheckBudget", "startComparison", "()V"⟩ : MethodName) (head1 (Jvm.Cond.code (⟨"com/example/amphisbaena/amphisbaena/format/CheckBudget", "startComparison", "()V"⟩ : MethodName) prog_8_method_2_code 1 none :: ws) ({ frames := 1, cells := 0, slots := 0, locals := 18 } : Room)) (fun aQ UQ => aQ = #[(.ref a)] ∧ Z.Warmed39 UQ.vm ∧ UQ.heap = h0) (fun _ _ _ _ _ => True) (fun _ U o U' => ∃ v L, o = .returned v ∧ Q7 Z a st dr h0 n0 v U'.heap L ∧ FrameEnd U o U' L ({ frames := 1, cells := 0, slots := 0, locals := 18 } : Room).cells ({ frames := 1, cells := 0, slots := 0, locals := 18 } : Room).slots) := by
  refine MetFree.of_bodySF (plainFor_of_name pn7) hisR ?_
  intro p e s m args below meth c s₁ Bd hml0 hP hK
  obtain ⟨rfl, hZ, hh⟩ := hP
  have hx := Bd.exec
  have hby := Bd.bytes
  have hml : c.maxLocals = 1 := hml0
  have hown : s.vm.findClass "com/example/amphisbaena/amphisbaena/format/CheckBudget" = some m.cls := findClass_of_methodNamed Bd.named
  have hnm := (name_of_methodNamed Bd.named Bd.method).1
  have X0 : Stand p l e ({ frames := 1, cells := 0, slots := 0, locals := 18 } : Room) s m #[(.ref a)] below meth c s₁ [] 0 0 := Stand.of_body Bd
  have e0 : s₁.heap = h0 := by rw [← hh, Bd.state]; rfl
  have N0 := Fr.nil n0
  show OGo p e below (OPost s (Q7 Z a st dr h0 n0) ({ frames := 1, cells := 0, slots := 0, locals := 18 } : Room).cells ({ frames := 1, cells := 0, slots := 0, locals := 18 } : Room).slots) (s₁.setTop (entryFrame m #[(.ref a)] 1))
  refine OGo.step (fun uK kK => castTop (ef7 m a) kK) ?_
  show OGo p e below _ (s₁.setTop (mkF m 0 #[.val (.ref a)] []))
  refine OGo.step (fun uK kK => XS.aloadN X0.here hx rfl (hb hby d7_0) rfl rfl kK) ?_
  show OGo p e below _ (s₁.setTop (mkF m 1 #[.val (.ref a)] [(.ref a)]))
  refine OGo.step (fun uK kK => XS.dup X0.here hx rfl (hb hby d7_1) rfl rfl kK) ?_
  show OGo p e below _ (s₁.setTop (mkF m 2 #[.val (.ref a)] [(.ref a), (.ref a)]))
  obtain ⟨T1, X1, e1, st1⟩ := getF X0 hx hZ hown (host := "") (Or.inl (hw _ (List.mem_of_getElem? (i := 24) rfl))) Via.refl e0 Fd (g := (mkF m 2 #[.val (.ref a)] [(.ref a), (.ref a)])) rfl rfl (hb hby d7_2)
  refine OGo.step (fun uK kK => st1 uK kK) ?_
  show OGo p e below _ (T1.setTop (mkF m 5 #[.val (.ref a)] [(.long dr), (.ref a)]))
  refine OGo.step (fun uK kK => XS.lconst X1.here hx rfl (hb hby d7_5) kK) ?_
  show OGo p e below _ (T1.setTop (mkF m 6 #[.val (.ref a)] [(.long (0 : Int64)), (.long dr), (.ref a)]))
  refine OGo.step (fun uK kK => XS.aloadN X1.here hx rfl (hb hby d7_6) rfl rfl kK) ?_
  show OGo p e below _ (T1.setTop (mkF m 7 #[.val (.ref a)] [(.ref a), (.long (0 : Int64)), (.long dr), (.ref a)]))
  obtain ⟨T2, X2, e2, st2⟩ := getF X1 hx hZ hown (host := "") (Or.inl (hw _ (List.mem_of_getElem? (i := 16) rfl))) Via.refl e1 Fs (g := (mkF m 7 #[.val (.ref a)] [(.ref a), (.long (0 : Int64)), (.long dr), (.ref a)])) rfl rfl (hb hby d7_7)
  refine OGo.step (fun uK kK => st2 uK kK) ?_
  show OGo p e below _ (T2.setTop (mkF m 10 #[.val (.ref a)] [(.long st), (.long (0 : Int64)), (.long dr), (.ref a)]))
  refine OGo.step (fun uK kK => X2.ldc2J hx hown (mvT hZ (hw _ (List.mem_of_getElem? (i := 41) rfl))) rfl (hb hby d7_10) kK) ?_
  show OGo p e below _ (T2.setTop (mkF m 13 #[.val (.ref a)] [(.long (1000000 : Int64)), (.long st), (.long (0 : Int64)), (.long dr), (.ref a)]))
  refine OGo.step (fun uK kK => XS.lsub X2.here hx rfl (hb hby d7_13) rfl kK) ?_
  show OGo p e below _ (T2.setTop (mkF m 14 #[.val (.ref a)] [(.long (st - (1000000 : Int64))), (.long (0 : Int64)), (.long dr), (.ref a)]))
  obtain ⟨_, _, ⟨T3, Lq3, kq_3, nq_3⟩, -, X3, ⟨Lc3, hQ3, lq3, yq3, zq3⟩, st3⟩ := Jvm.LawKit.callS X2 hx (y := (⟨"java/lang/Math", "max", "(JJ)J"⟩ : MethodName)) hown (mvT hZ (hw _ (List.mem_of_getElem? (i := 42) rfl))) (mvT hZ (hw _ (List.mem_of_getElem? (i := 33) rfl))) (mvT hZ (hw _ (List.mem_of_getElem? (i := 34) rfl))) (mvT hZ (hw _ (List.mem_of_getElem? (i := 35) rfl))) (by decide) (backOf (W := 3) (rm6 l Z a0 hw [] (0 : Int64) (st - (1000000 : Int64))  h0 n0 Z0 ) hZ (hw _ (List.mem_of_getElem? (i := 35) rfl)) (hw _ (List.mem_of_getElem? (i := 34) rfl)) (by decide) (by decide)) (g := (mkF m 14 #[.val (.ref a)] [(.long (st - (1000000 : Int64))), (.long (0 : Int64)), (.long dr), (.ref a)])) rfl (by rw [hml]; rfl) (argsL := [(.long (0 : Int64)), (.long (st - (1000000 : Int64)))]) (rest := [(.long dr), (.ref a)]) (lenOf pd7_0 rfl) rfl (by show 2 * 0 + _ ≤ _; exact Nat.le_of_eq rfl) (hb hby d7_14) (fun _ _ => ⟨rfl, e2, (by decide : 0 + 0 ≤ _), (by decide : 0 + 0 ≤ _)⟩)
  dsimp only [Pt.U, Pt.locs, Pt.cells, Pt.slots] at X3 lq3 yq3 zq3 st3 hQ3
  subst lq3 yq3 zq3
  obtain ⟨rfl, Nq3, e3⟩ := hQ3
  have N3 := Fr.app N0 Nq3
  refine OGo.step (fun uK kK => st3 uK kK) ?_
  show OGo p e below _ (T3.setTop (mkF m 17 #[.val (.ref a)] [(.long (if (0 : Int64) < (st - (1000000 : Int64)) then (st - (1000000 : Int64)) else (0 : Int64))), (.long dr), (.ref a)]))
  refine OGo.step (fun uK kK => XS.ladd X3.here hx rfl (hb hby d7_17) rfl kK) ?_
  show OGo p e below _ (T3.setTop (mkF m 18 #[.val (.ref a)] [(.long (dr + (if (0 : Int64) < (st - (1000000 : Int64)) then (st - (1000000 : Int64)) else (0 : Int64)))), (.ref a)]))
  obtain ⟨T4, h4, X4, e4, W4, st4⟩ := putF X3 hx hZ hown (host := "") (Or.inl (hw _ (List.mem_of_getElem? (i := 24) rfl))) Via.refl e3 Fd Ex (Or.inl (hw _ (List.mem_of_getElem? (i := 25) rfl))) (hw _ (List.mem_of_getElem? (i := 1) rfl)) (ty := .long) (by decide) rfl rfl (g := (mkF m 18 #[.val (.ref a)] [(.long (dr + (if (0 : Int64) < (st - (1000000 : Int64)) then (st - (1000000 : Int64)) else (0 : Int64)))), (.ref a)])) rfl rfl (hb hby d7_18)
  have Fw4 := Fd.same W4
  have Fs_5 := (Fs.other W4 (Or.inr (slot_ne (Or.inl (hw _ (List.mem_of_getElem? (i := 17) rfl))) (Or.inl (hw _ (List.mem_of_getElem? (i := 25) rfl))) (by decide) (t := .long) (t' := .long) (by decide) (by decide))))
  have Ex_7 := (Ex.wr W4)
  have ZS4 : n0 ≤ h4.size := Nat.le_trans Z0 (Keep.of_wr W4).1
  have KC4 : Keep h0 h4 [a] := (Keep.refl h0 [a]).wr W4 (Or.inl (List.mem_of_getElem? (i := 0) rfl))
  have N4 := Fr.snoc X4 N3 ga
  refine OGo.step (fun uK kK => st4 uK kK) ?_
  show OGo p e below _ (T4.setTop (mkF m 21 #[.val (.ref a)] []))
  refine OGo.step (fun uK kK => XS.aloadN X4.here hx rfl (hb hby d7_21) rfl rfl kK) ?_
  show OGo p e below _ (T4.setTop (mkF m 22 #[.val (.ref a)] [(.ref a)]))
  refine OGo.step (fun uK kK => XS.lconst X4.here hx rfl (hb hby d7_22) kK) ?_
  show OGo p e below _ (T4.setTop (mkF m 23 #[.val (.ref a)] [(.long (0 : Int64)), (.ref a)]))
  obtain ⟨T8, h8, X8, e8, W8, st8⟩ := putF X4 hx hZ hown (host := "") (Or.inl (hw _ (List.mem_of_getElem? (i := 16) rfl))) Via.refl e4 Fs_5 Ex_7 (Or.inl (hw _ (List.mem_of_getElem? (i := 17) rfl))) (hw _ (List.mem_of_getElem? (i := 1) rfl)) (ty := .long) (by decide) rfl rfl (g := (mkF m 23 #[.val (.ref a)] [(.long (0 : Int64)), (.ref a)])) rfl rfl (hb hby d7_23)
  have Fw8 := Fs_5.same W8
  have Ex_10 := (Ex_7.wr W8)
  have Fw4_11 := (Fw4.other W8 (Or.inr (slot_ne (Or.inl (hw _ (List.mem_of_getElem? (i := 25) rfl))) (Or.inl (hw _ (List.mem_of_getElem? (i := 17) rfl))) (by decide) (t := .long) (t' := .long) (by decide) (by decide))))
  have ZS8 : n0 ≤ h8.size := Nat.le_trans ZS4 (Keep.of_wr W8).1
  have KC8 : Keep h0 h8 [a] := KC4.wr W8 (Or.inl (List.mem_of_getElem? (i := 0) rfl))
  have N8 := Fr.snoc X8 N4 ga
  refine OGo.step (fun uK kK => st8 uK kK) ?_
  show OGo p e below _ (T8.setTop (mkF m 26 #[.val (.ref a)] []))
  exact OGo.retV X8 hx Bd.notSynchronized Bd.returns (hb hby d7_26) (by decide) (by decide) (by show Q7 Z a st dr h0 n0 _ T8.heap _; rw [e8]; exact ⟨rfl, N8, KC8, Fw8, Fw4_11⟩)
theorem own_eq1 (a b : Int32) (s1 s2 s : Int64) (h1 : s1 = ((0 : Int64) + (a.toInt64))) (h2 : s2 = (s1 + (b.toInt64))) (h3 : s = ((a.toInt64) + (b.toInt64))) : s2 = s := by
  rw [h2, h1, h3, Int64.zero_add]
theorem own_nb (P : Prop) [Decidable P] : nar .boolean (if P then (1 : Int32) else (0 : Int32)) = (if P then (1 : Int32) else (0 : Int32)) := by split <;> rfl
theorem own_sub0 (x : Int64) : x - (0 : Int64) = x := by simp
theorem own_zero (x : Int64) : (0 : Int64) + x = x := by simp
theorem pn0 : plainName "com/example/amphisbaena/amphisbaena/format/CheckBudgetTakePinLaw" = true := by first | (simp [plainName, overriddenIn]; done) | decide +kernel
theorem pd0_0 : parseMethodDescriptor "()V" = some ⟨[], none⟩ := by decide +kernel
theorem pd0_1 : parseMethodDescriptor "(I)V" = some ⟨[.int], none⟩ := by decide +kernel
theorem pd0_2 : parseMethodDescriptor "()J" = some ⟨[], some .long⟩ := by decide +kernel
theorem pd0_3 : parseMethodDescriptor "()Z" = some ⟨[], some .boolean⟩ := by decide +kernel
theorem pd0_4 : parseMethodDescriptor "(JJ)J" = some ⟨[.long, .long], some .long⟩ := by decide +kernel
theorem ef0 (m : MethodId) (x0 : Int32) (x1 : Int32) (x2 : Int32) : entryFrame m #[(.int x0), (.int x1), (.int x2)] maxLocals = mkF m 0 #[.val (.int x0), .val (.int x1), .val (.int x2), .unset, .unset, .unset, .unset, .unset, .unset, .unset, .unset, .unset, .unset, .unset, .unset, .unset] [] := by first | (simp [entryFrame, mkF, argsToLocals, Value.category, maxLocals]; done) | rfl
def Q0 (Z : State) (p0 : Int32) (p1 : Int32) (p2 : Int32) (h0 : Heap) (n0 : Nat) (v : Option Value) (h : Heap) (L : List Loc) : Prop := v = some (.int 1) ∧ Fr n0 L
set_option maxRecDepth 65536 in
set_option maxHeartbeats 40000000 in
theorem rm0 (l : Launch) (Z : State) (a0 : Array Value) (hw : ∀ d ∈ tables_1, d.before a0 Z = true) (ws : List Jvm.Cond) (p0 : Int32) (p1 : Int32) (p2 : Int32) (h0 : Heap) (n0 : Nat) (Z0 : n0 ≤ h0.size) :
    MetFree l x (head1 (Jvm.Cond.code x code maxLocals ret :: ws) room_1) (fun aQ UQ => aQ = #[(.int p0), (.int p1), (.int p2)] ∧ Z.Warmed39 UQ.vm ∧ UQ.heap = h0) (fun _ _ _ _ _ => True) (fun _ U o U' => ∃ v L, o = .returned v ∧ Q0 Z p0 p1 p2 h0 n0 v U'.heap L ∧ FrameEnd U o U' L room_1.cells room_1.slots) := by
  refine MetFree.of_bodySF (plainFor_of_name pn0) hisR ?_
  intro p e s m args below meth c s₁ Bd hml0 hP hK
  obtain ⟨rfl, hZ, hh⟩ := hP
  have hx := Bd.exec
  have hby := Bd.bytes
  have hml : c.maxLocals = 16 := hml0
  have hown : s.vm.findClass "com/example/amphisbaena/amphisbaena/format/CheckBudgetTakePinLaw" = some m.cls := findClass_of_methodNamed Bd.named
  have hnm := (name_of_methodNamed Bd.named Bd.method).1
  have X0 : Stand p l e room_1 s m #[(.int p0), (.int p1), (.int p2)] below meth c s₁ [] 0 0 := Stand.of_body Bd
  have e0 : s₁.heap = h0 := by rw [← hh, Bd.state]; rfl
  have N0 := Fr.nil n0
  show OGo p e below (OPost s (Q0 Z p0 p1 p2 h0 n0) room_1.cells room_1.slots) (s₁.setTop (entryFrame m #[(.int p0), (.int p1), (.int p2)] maxLocals))
  refine OGo.step (fun uK kK => castTop (ef0 m p0 p1 p2) kK) ?_
  show OGo p e below _ (s₁.setTop (mkF m 0 #[.val (.int p0), .val (.int p1), .val (.int p2), .unset, .unset, .unset, .unset, .unset, .unset, .unset, .unset, .unset, .unset, .unset, .unset, .unset] []))
  obtain ⟨T1, h1, X1, e1, E1, A1, D1, -, st1⟩ := newO X0 hx hZ hown (hw _ (List.mem_of_getElem? (i := 0) rfl)) (hw _ (List.mem_of_getElem? (i := 1) rfl)) (hw _ (List.mem_of_getElem? (i := 2) rfl)) e0 (g := (mkF m 0 #[.val (.int p0), .val (.int p1), .val (.int p2), .unset, .unset, .unset, .unset, .unset, .unset, .unset, .unset, .unset, .unset, .unset, .unset, .unset] [])) rfl (hb hby at_0) (by decide) (by decide)
  obtain ⟨b1, g1⟩ : ∃ z, z = h0.size := ⟨_, rfl⟩
  rw [← g1] at A1 D1 st1
  have gn_b1 : n0 ≤ b1 := Nat.le_trans Z0 (Nat.le_of_eq g1.symm)
  have sz_b1 : h0.size ≤ b1 := Nat.le_trans (Keep.refl h0 []).1 (Nat.le_of_eq g1.symm)
  have ZS1 : n0 ≤ h1.size := Nat.le_trans Z0 E1.1
  have KC1 : Keep h0 h1 [] := (Keep.refl h0 []).ext E1
  have Fsteps_b1 : Fld Z h1 b1 "com/example/amphisbaena/amphisbaena/format/CheckBudget" "steps" "J" (.long (0 : Int64)) := D1 (Or.inl (hw _ (List.mem_of_getElem? (i := 17) rfl))) (ty := .long) (by decide)
  have Fdrawn_b1 : Fld Z h1 b1 "com/example/amphisbaena/amphisbaena/format/CheckBudget" "drawn" "J" (.long (0 : Int64)) := D1 (Or.inl (hw _ (List.mem_of_getElem? (i := 25) rfl))) (ty := .long) (by decide)
  refine OGo.step (fun uK kK => st1 uK kK) ?_
  show OGo p e below _ (T1.setTop (mkF m 3 #[.val (.int p0), .val (.int p1), .val (.int p2), .unset, .unset, .unset, .unset, .unset, .unset, .unset, .unset, .unset, .unset, .unset, .unset, .unset] [(.ref b1)]))
  refine OGo.step (fun uK kK => XS.dup X1.here hx rfl (hb hby at_3) rfl rfl kK) ?_
  show OGo p e below _ (T1.setTop (mkF m 4 #[.val (.int p0), .val (.int p1), .val (.int p2), .unset, .unset, .unset, .unset, .unset, .unset, .unset, .unset, .unset, .unset, .unset, .unset, .unset] [(.ref b1), (.ref b1)]))
  obtain ⟨_, _, ⟨T2, Lq2, kq_2, nq_2⟩, -, X2, ⟨Lc2, hQ2, lq2, yq2, zq2⟩, st2⟩ := X1.specialBack hx (y := (⟨"com/example/amphisbaena/amphisbaena/format/CheckBudget", "<init>", "()V"⟩ : MethodName)) rfl hown (mvT hZ (hw _ (List.mem_of_getElem? (i := 3) rfl))) (mvT hZ (hw _ (List.mem_of_getElem? (i := 4) rfl))) (mvT hZ (hw _ (List.mem_of_getElem? (i := 5) rfl))) (by decide) (backOf (W := 1) (rmi l Z a0 hw [] b1  h1 n0 ZS1 ) hZ (hw _ (List.mem_of_getElem? (i := 5) rfl)) (hw _ (List.mem_of_getElem? (i := 2) rfl)) (by decide) (by decide)) (g := (mkF m 4 #[.val (.int p0), .val (.int p1), .val (.int p2), .unset, .unset, .unset, .unset, .unset, .unset, .unset, .unset, .unset, .unset, .unset, .unset, .unset] [(.ref b1), (.ref b1)])) rfl (by rw [hml]; rfl) (Steps.refl _) (a := b1) (argsL := []) (rest := [(.ref b1)]) (lenOf pd0_0 rfl) rfl (by show 2 * 0 + _ ≤ _; exact Nat.le_of_eq rfl) (hb hby at_4) (fun _ _ => ⟨rfl, e1, (by decide : 1 + 0 ≤ _), (by decide : 2 + 0 ≤ _)⟩)
  dsimp only [Pt.U, Pt.locs, Pt.cells, Pt.slots] at X2 lq2 yq2 zq2 st2 hQ2
  subst lq2 yq2 zq2
  obtain ⟨rfl, Nq2, e2⟩ := hQ2
  have N2 := Fr.app N0 Nq2
  refine OGo.steps st2 ?_
  show OGo p e below _ (T2.setTop (mkF m 7 #[.val (.int p0), .val (.int p1), .val (.int p2), .unset, .unset, .unset, .unset, .unset, .unset, .unset, .unset, .unset, .unset, .unset, .unset, .unset] [(.ref b1)]))
  refine OGo.step (fun uK kK => XS.astoreN X2.here hx rfl (hb hby at_7) rfl rfl (l' := #[.val (.int p0), .val (.int p1), .val (.int p2), .val (.ref b1), .unset, .unset, .unset, .unset, .unset, .unset, .unset, .unset, .unset, .unset, .unset, .unset]) rfl kK) ?_
  show OGo p e below _ (T2.setTop (mkF m 8 #[.val (.int p0), .val (.int p1), .val (.int p2), .val (.ref b1), .unset, .unset, .unset, .unset, .unset, .unset, .unset, .unset, .unset, .unset, .unset, .unset] []))
  refine OGo.step (fun uK kK => X2.ldc2J hx hown (mvT hZ (hw _ (List.mem_of_getElem? (i := 9) rfl))) rfl (hb hby at_8) kK) ?_
  show OGo p e below _ (T2.setTop (mkF m 11 #[.val (.int p0), .val (.int p1), .val (.int p2), .val (.ref b1), .unset, .unset, .unset, .unset, .unset, .unset, .unset, .unset, .unset, .unset, .unset, .unset] [(.long (10000000 : Int64))]))
  refine OGo.step (fun uK kK => XS.lstore X2.here hx rfl (hb hby at_11) rfl (l' := #[.val (.int p0), .val (.int p1), .val (.int p2), .val (.ref b1), .val (.long (10000000 : Int64)), .second, .unset, .unset, .unset, .unset, .unset, .unset, .unset, .unset, .unset, .unset]) rfl kK) ?_
  show OGo p e below _ (T2.setTop (mkF m 13 #[.val (.int p0), .val (.int p1), .val (.int p2), .val (.ref b1), .val (.long (10000000 : Int64)), .second, .unset, .unset, .unset, .unset, .unset, .unset, .unset, .unset, .unset, .unset] []))
  refine OGo.step (fun uK kK => X2.ldc2J hx hown (mvT hZ (hw _ (List.mem_of_getElem? (i := 10) rfl))) rfl (hb hby at_13) kK) ?_
  show OGo p e below _ (T2.setTop (mkF m 16 #[.val (.int p0), .val (.int p1), .val (.int p2), .val (.ref b1), .val (.long (10000000 : Int64)), .second, .unset, .unset, .unset, .unset, .unset, .unset, .unset, .unset, .unset, .unset] [(.long (1000000 : Int64))]))
  refine OGo.step (fun uK kK => XS.lstore X2.here hx rfl (hb hby at_16) rfl (l' := #[.val (.int p0), .val (.int p1), .val (.int p2), .val (.ref b1), .val (.long (10000000 : Int64)), .second, .val (.long (1000000 : Int64)), .second, .unset, .unset, .unset, .unset, .unset, .unset, .unset, .unset]) rfl kK) ?_
  show OGo p e below _ (T2.setTop (mkF m 18 #[.val (.int p0), .val (.int p1), .val (.int p2), .val (.ref b1), .val (.long (10000000 : Int64)), .second, .val (.long (1000000 : Int64)), .second, .unset, .unset, .unset, .unset, .unset, .unset, .unset, .unset] []))
  refine OGo.step (fun uK kK => XS.aloadN X2.here hx rfl (hb hby at_18) rfl rfl kK) ?_
  show OGo p e below _ (T2.setTop (mkF m 19 #[.val (.int p0), .val (.int p1), .val (.int p2), .val (.ref b1), .val (.long (10000000 : Int64)), .second, .val (.long (1000000 : Int64)), .second, .unset, .unset, .unset, .unset, .unset, .unset, .unset, .unset] [(.ref b1)]))
  refine OGo.step (fun uK kK => XS.iloadN X2.here hx rfl (hb hby at_19) rfl kK) ?_
  show OGo p e below _ (T2.setTop (mkF m 20 #[.val (.int p0), .val (.int p1), .val (.int p2), .val (.ref b1), .val (.long (10000000 : Int64)), .second, .val (.long (1000000 : Int64)), .second, .unset, .unset, .unset, .unset, .unset, .unset, .unset, .unset] [(.int p0), (.ref b1)]))
  obtain ⟨cq3, kq3, q3a, q3b, q3c⟩ := isOf hZ e2 A1
  obtain ⟨_, _, ⟨T3, Lq3, kq_3, nq_3⟩, -, X3, ⟨Lc3, hQ3, lq3, yq3, zq3⟩, st3⟩ := X2.virtualBack hx (y := (⟨"com/example/amphisbaena/amphisbaena/format/CheckBudget", "take", "(I)V"⟩ : MethodName)) (z := (⟨"com/example/amphisbaena/amphisbaena/format/CheckBudget", "take", "(I)V"⟩ : MethodName)) hown (mvT hZ (hw _ (List.mem_of_getElem? (i := 11) rfl))) (mvT hZ (hw _ (List.mem_of_getElem? (i := 12) rfl))) (notFace_of_selects (args := #[]) (mvT hZ (hw _ (List.mem_of_getElem? (i := 14) rfl)))) (mvT hZ (hw _ (List.mem_of_getElem? (i := 14) rfl))) (mvT hZ (hw _ (List.mem_of_getElem? (i := 13) rfl))) (by decide) (backOf (W := 0) (rm3 l Z a0 hw [] b1 p0 (0 : Int64) (0 : Int64) h1 n0 ZS1 Fsteps_b1 Fdrawn_b1 A1 gn_b1) hZ (hw _ (List.mem_of_getElem? (i := 15) rfl)) (hw _ (List.mem_of_getElem? (i := 2) rfl)) (by decide) (by decide)) q3a q3c (g := (mkF m 20 #[.val (.int p0), .val (.int p1), .val (.int p2), .val (.ref b1), .val (.long (10000000 : Int64)), .second, .val (.long (1000000 : Int64)), .second, .unset, .unset, .unset, .unset, .unset, .unset, .unset, .unset] [(.int p0), (.ref b1)])) rfl (by rw [hml]; rfl) (Steps.refl _) (argsL := [(.int p0)]) (rest := []) (lenOf pd0_1 rfl) rfl (by show 2 * 0 + _ ≤ _; exact Nat.le_of_eq rfl) (hb hby at_20) (fun _ _ => ⟨rfl, e2, (by decide : 1 + 0 ≤ _), (by decide : 2 + 0 ≤ _)⟩)
  dsimp only [Pt.U, Pt.locs, Pt.cells, Pt.slots] at X3 lq3 yq3 zq3 st3 hQ3
  subst lq3 yq3 zq3
  obtain ⟨rfl, Nq3, K3, Fs3, Fd3⟩ := hQ3
  have A1_4 := (A1.keep K3)
  have ZS3 : n0 ≤ T3.heap.size := Nat.le_trans ZS1 K3.1
  have KC3 : Keep h0 T3.heap [] := KC1.trans K3 (allS (Or.inr sz_b1) all0)
  have N3 := Fr.app N2 Nq3
  refine OGo.steps st3 ?_
  show OGo p e below _ (T3.setTop (mkF m 23 #[.val (.int p0), .val (.int p1), .val (.int p2), .val (.ref b1), .val (.long (10000000 : Int64)), .second, .val (.long (1000000 : Int64)), .second, .unset, .unset, .unset, .unset, .unset, .unset, .unset, .unset] []))
  obtain ⟨s1, ev_s1⟩ : ∃ z : Int64, z = ((0 : Int64) + (p0.toInt64)) := ⟨_, rfl⟩
  rw [← ev_s1] at Fs3
  refine OGo.step (fun uK kK => XS.aloadN X3.here hx rfl (hb hby at_23) rfl rfl kK) ?_
  show OGo p e below _ (T3.setTop (mkF m 24 #[.val (.int p0), .val (.int p1), .val (.int p2), .val (.ref b1), .val (.long (10000000 : Int64)), .second, .val (.long (1000000 : Int64)), .second, .unset, .unset, .unset, .unset, .unset, .unset, .unset, .unset] [(.ref b1)]))
  refine OGo.step (fun uK kK => XS.iloadN X3.here hx rfl (hb hby at_24) rfl kK) ?_
  show OGo p e below _ (T3.setTop (mkF m 25 #[.val (.int p0), .val (.int p1), .val (.int p2), .val (.ref b1), .val (.long (10000000 : Int64)), .second, .val (.long (1000000 : Int64)), .second, .unset, .unset, .unset, .unset, .unset, .unset, .unset, .unset] [(.int p1), (.ref b1)]))
  obtain ⟨cq7, kq7, q7a, q7b, q7c⟩ := isOf hZ rfl A1_4
  obtain ⟨_, _, ⟨T7, Lq7, kq_7, nq_7⟩, -, X7, ⟨Lc7, hQ7, lq7, yq7, zq7⟩, st7⟩ := X3.virtualBack hx (y := (⟨"com/example/amphisbaena/amphisbaena/format/CheckBudget", "take", "(I)V"⟩ : MethodName)) (z := (⟨"com/example/amphisbaena/amphisbaena/format/CheckBudget", "take", "(I)V"⟩ : MethodName)) hown (mvT hZ (hw _ (List.mem_of_getElem? (i := 11) rfl))) (mvT hZ (hw _ (List.mem_of_getElem? (i := 12) rfl))) (notFace_of_selects (args := #[]) (mvT hZ (hw _ (List.mem_of_getElem? (i := 14) rfl)))) (mvT hZ (hw _ (List.mem_of_getElem? (i := 14) rfl))) (mvT hZ (hw _ (List.mem_of_getElem? (i := 13) rfl))) (by decide) (backOf (W := 0) (rm3 l Z a0 hw [] b1 p1 s1 (0 : Int64) T3.heap n0 ZS3 Fs3 Fd3 A1_4 gn_b1) hZ (hw _ (List.mem_of_getElem? (i := 15) rfl)) (hw _ (List.mem_of_getElem? (i := 2) rfl)) (by decide) (by decide)) q7a q7c (g := (mkF m 25 #[.val (.int p0), .val (.int p1), .val (.int p2), .val (.ref b1), .val (.long (10000000 : Int64)), .second, .val (.long (1000000 : Int64)), .second, .unset, .unset, .unset, .unset, .unset, .unset, .unset, .unset] [(.int p1), (.ref b1)])) rfl (by rw [hml]; rfl) (Steps.refl _) (argsL := [(.int p1)]) (rest := []) (lenOf pd0_1 rfl) rfl (by show 2 * 0 + _ ≤ _; exact Nat.le_of_eq rfl) (hb hby at_25) (fun _ _ => ⟨rfl, rfl, (by decide : 1 + 0 ≤ _), (by decide : 2 + 0 ≤ _)⟩)
  dsimp only [Pt.U, Pt.locs, Pt.cells, Pt.slots] at X7 lq7 yq7 zq7 st7 hQ7
  subst lq7 yq7 zq7
  obtain ⟨rfl, Nq7, K7, Fs7, Fd7⟩ := hQ7
  have A1_8 := (A1_4.keep K7)
  have ZS7 : n0 ≤ T7.heap.size := Nat.le_trans ZS3 K7.1
  have KC7 : Keep h0 T7.heap [] := KC3.trans K7 (allS (Or.inr sz_b1) all0)
  have N7 := Fr.app N3 Nq7
  refine OGo.steps st7 ?_
  show OGo p e below _ (T7.setTop (mkF m 28 #[.val (.int p0), .val (.int p1), .val (.int p2), .val (.ref b1), .val (.long (10000000 : Int64)), .second, .val (.long (1000000 : Int64)), .second, .unset, .unset, .unset, .unset, .unset, .unset, .unset, .unset] []))
  obtain ⟨s2, ev_s2⟩ : ∃ z : Int64, z = (s1 + (p1.toInt64)) := ⟨_, rfl⟩
  rw [← ev_s2] at Fs7
  refine OGo.step (fun uK kK => XS.iloadN X7.here hx rfl (hb hby at_28) rfl kK) ?_
  show OGo p e below _ (T7.setTop (mkF m 29 #[.val (.int p0), .val (.int p1), .val (.int p2), .val (.ref b1), .val (.long (10000000 : Int64)), .second, .val (.long (1000000 : Int64)), .second, .unset, .unset, .unset, .unset, .unset, .unset, .unset, .unset] [(.int p0)]))
  refine OGo.step (fun uK kK => XS.i2l X7.here hx rfl (hb hby at_29) rfl kK) ?_
  show OGo p e below _ (T7.setTop (mkF m 30 #[.val (.int p0), .val (.int p1), .val (.int p2), .val (.ref b1), .val (.long (10000000 : Int64)), .second, .val (.long (1000000 : Int64)), .second, .unset, .unset, .unset, .unset, .unset, .unset, .unset, .unset] [(.long (p0.toInt64))]))
  refine OGo.step (fun uK kK => XS.iloadN X7.here hx rfl (hb hby at_30) rfl kK) ?_
  show OGo p e below _ (T7.setTop (mkF m 31 #[.val (.int p0), .val (.int p1), .val (.int p2), .val (.ref b1), .val (.long (10000000 : Int64)), .second, .val (.long (1000000 : Int64)), .second, .unset, .unset, .unset, .unset, .unset, .unset, .unset, .unset] [(.int p1), (.long (p0.toInt64))]))
  refine OGo.step (fun uK kK => XS.i2l X7.here hx rfl (hb hby at_31) rfl kK) ?_
  show OGo p e below _ (T7.setTop (mkF m 32 #[.val (.int p0), .val (.int p1), .val (.int p2), .val (.ref b1), .val (.long (10000000 : Int64)), .second, .val (.long (1000000 : Int64)), .second, .unset, .unset, .unset, .unset, .unset, .unset, .unset, .unset] [(.long (p1.toInt64)), (.long (p0.toInt64))]))
  refine OGo.step (fun uK kK => XS.ladd X7.here hx rfl (hb hby at_32) rfl kK) ?_
  show OGo p e below _ (T7.setTop (mkF m 33 #[.val (.int p0), .val (.int p1), .val (.int p2), .val (.ref b1), .val (.long (10000000 : Int64)), .second, .val (.long (1000000 : Int64)), .second, .unset, .unset, .unset, .unset, .unset, .unset, .unset, .unset] [(.long ((p0.toInt64) + (p1.toInt64)))]))
  obtain ⟨s_, ev_s_⟩ : ∃ z : Int64, z = ((p0.toInt64) + (p1.toInt64)) := ⟨_, rfl⟩
  rw [← ev_s_]
  show OGo p e below _ (T7.setTop (mkF m 33 #[.val (.int p0), .val (.int p1), .val (.int p2), .val (.ref b1), .val (.long (10000000 : Int64)), .second, .val (.long (1000000 : Int64)), .second, .unset, .unset, .unset, .unset, .unset, .unset, .unset, .unset] [(.long s_)]))
  refine OGo.step (fun uK kK => XS.lstore X7.here hx rfl (hb hby at_33) rfl (l' := #[.val (.int p0), .val (.int p1), .val (.int p2), .val (.ref b1), .val (.long (10000000 : Int64)), .second, .val (.long (1000000 : Int64)), .second, .val (.long s_), .second, .unset, .unset, .unset, .unset, .unset, .unset]) rfl kK) ?_
  show OGo p e below _ (T7.setTop (mkF m 35 #[.val (.int p0), .val (.int p1), .val (.int p2), .val (.ref b1), .val (.long (10000000 : Int64)), .second, .val (.long (1000000 : Int64)), .second, .val (.long s_), .second, .unset, .unset, .unset, .unset, .unset, .unset] []))
  have hs2 : s2 = s_ := own_eq1 p0 p1 s1 s2 s_ ev_s1 ev_s2 ev_s_
  refine OGo.step (fun uK kK => XS.aloadN X7.here hx rfl (hb hby at_35) rfl rfl kK) ?_
  show OGo p e below _ (T7.setTop (mkF m 36 #[.val (.int p0), .val (.int p1), .val (.int p2), .val (.ref b1), .val (.long (10000000 : Int64)), .second, .val (.long (1000000 : Int64)), .second, .val (.long s_), .second, .unset, .unset, .unset, .unset, .unset, .unset] [(.ref b1)]))
  obtain ⟨cq11, kq11, q11a, q11b, q11c⟩ := isOf hZ rfl A1_8
  obtain ⟨_, _, ⟨T11, Lq11, kq_11, nq_11⟩, -, X11, ⟨Lc11, hQ11, lq11, yq11, zq11⟩, st11⟩ := X7.virtualBack hx (y := (⟨"com/example/amphisbaena/amphisbaena/format/CheckBudget", "limit", "()J"⟩ : MethodName)) (z := (⟨"com/example/amphisbaena/amphisbaena/format/CheckBudget", "limit", "()J"⟩ : MethodName)) hown (mvT hZ (hw _ (List.mem_of_getElem? (i := 18) rfl))) (mvT hZ (hw _ (List.mem_of_getElem? (i := 19) rfl))) (notFace_of_selects (args := #[]) (mvT hZ (hw _ (List.mem_of_getElem? (i := 21) rfl)))) (mvT hZ (hw _ (List.mem_of_getElem? (i := 21) rfl))) (mvT hZ (hw _ (List.mem_of_getElem? (i := 20) rfl))) (by decide) (backOf (W := 0) (rm4 l Z a0 hw [] b1 (0 : Int64) T7.heap n0 ZS7 Fd7) hZ (hw _ (List.mem_of_getElem? (i := 22) rfl)) (hw _ (List.mem_of_getElem? (i := 2) rfl)) (by decide) (by decide)) q11a q11c (g := (mkF m 36 #[.val (.int p0), .val (.int p1), .val (.int p2), .val (.ref b1), .val (.long (10000000 : Int64)), .second, .val (.long (1000000 : Int64)), .second, .val (.long s_), .second, .unset, .unset, .unset, .unset, .unset, .unset] [(.ref b1)])) rfl (by rw [hml]; rfl) (Steps.refl _) (argsL := []) (rest := []) (lenOf pd0_2 rfl) rfl (by show 2 * 0 + _ ≤ _; exact Nat.le_of_eq rfl) (hb hby at_36) (fun _ _ => ⟨rfl, rfl, (by decide : 1 + 0 ≤ _), (by decide : 2 + 0 ≤ _)⟩)
  dsimp only [Pt.U, Pt.locs, Pt.cells, Pt.slots] at X11 lq11 yq11 zq11 st11 hQ11
  subst lq11 yq11 zq11
  obtain ⟨rfl, Nq11, e11⟩ := hQ11
  have N11 := Fr.app N7 Nq11
  refine OGo.steps st11 ?_
  show OGo p e below _ (T11.setTop (mkF m 39 #[.val (.int p0), .val (.int p1), .val (.int p2), .val (.ref b1), .val (.long (10000000 : Int64)), .second, .val (.long (1000000 : Int64)), .second, .val (.long s_), .second, .unset, .unset, .unset, .unset, .unset, .unset] [(.long ((10000000 : Int64) - (0 : Int64)))]))
  refine OGo.step (fun uK kK => XS.lload X11.here hx rfl (hb hby at_39) rfl kK) ?_
  show OGo p e below _ (T11.setTop (mkF m 41 #[.val (.int p0), .val (.int p1), .val (.int p2), .val (.ref b1), .val (.long (10000000 : Int64)), .second, .val (.long (1000000 : Int64)), .second, .val (.long s_), .second, .unset, .unset, .unset, .unset, .unset, .unset] [(.long (10000000 : Int64)), (.long ((10000000 : Int64) - (0 : Int64)))]))
  refine OGo.step (fun uK kK => XS.lcmp X11.here hx rfl (hb hby at_41) rfl kK) ?_
  show OGo p e below _ (T11.setTop (mkF m 42 #[.val (.int p0), .val (.int p1), .val (.int p2), .val (.ref b1), .val (.long (10000000 : Int64)), .second, .val (.long (1000000 : Int64)), .second, .val (.long s_), .second, .unset, .unset, .unset, .unset, .unset, .unset] [(.int (lcmpW ((10000000 : Int64) - (0 : Int64)) (10000000 : Int64)))]))
  have hc42 : ((10000000 : Int64) - (0 : Int64)) = (10000000 : Int64) := by decide
  refine OGo.step (fun uK kK => XS.ifNo X11.here hx rfl (hb hby at_42) rfl ((if0 _ _).trans (teq ((lw_eq _ _).mpr hc42)).2) kK) ?_
  show OGo p e below _ (T11.setTop (mkF m 45 #[.val (.int p0), .val (.int p1), .val (.int p2), .val (.ref b1), .val (.long (10000000 : Int64)), .second, .val (.long (1000000 : Int64)), .second, .val (.long s_), .second, .unset, .unset, .unset, .unset, .unset, .unset] []))
  refine OGo.step (fun uK kK => XS.iconst X11.here hx rfl (hb hby at_45) kK) ?_
  show OGo p e below _ (T11.setTop (mkF m 46 #[.val (.int p0), .val (.int p1), .val (.int p2), .val (.ref b1), .val (.long (10000000 : Int64)), .second, .val (.long (1000000 : Int64)), .second, .val (.long s_), .second, .unset, .unset, .unset, .unset, .unset, .unset] [(.int (1 : Int32))]))
  refine OGo.step (fun uK kK => XS.goto X11.here hx rfl (pc0 := 46) (pc' := 50) rfl (hb hby at_46) (by decide) (by decide) kK) ?_
  show OGo p e below _ (T11.setTop (mkF m 50 #[.val (.int p0), .val (.int p1), .val (.int p2), .val (.ref b1), .val (.long (10000000 : Int64)), .second, .val (.long (1000000 : Int64)), .second, .val (.long s_), .second, .unset, .unset, .unset, .unset, .unset, .unset] [(.int (1 : Int32))]))
  refine OGo.step (fun uK kK => XS.istore X11.here hx rfl (hb hby at_50) rfl (l' := #[.val (.int p0), .val (.int p1), .val (.int p2), .val (.ref b1), .val (.long (10000000 : Int64)), .second, .val (.long (1000000 : Int64)), .second, .val (.long s_), .second, .val (.int (1 : Int32)), .unset, .unset, .unset, .unset, .unset]) rfl kK) ?_
  show OGo p e below _ (T11.setTop (mkF m 52 #[.val (.int p0), .val (.int p1), .val (.int p2), .val (.ref b1), .val (.long (10000000 : Int64)), .second, .val (.long (1000000 : Int64)), .second, .val (.long s_), .second, .val (.int (1 : Int32)), .unset, .unset, .unset, .unset, .unset] []))
  refine OGo.step (fun uK kK => XS.aloadN X11.here hx rfl (hb hby at_52) rfl rfl kK) ?_
  show OGo p e below _ (T11.setTop (mkF m 53 #[.val (.int p0), .val (.int p1), .val (.int p2), .val (.ref b1), .val (.long (10000000 : Int64)), .second, .val (.long (1000000 : Int64)), .second, .val (.long s_), .second, .val (.int (1 : Int32)), .unset, .unset, .unset, .unset, .unset] [(.ref b1)]))
  obtain ⟨cq12, kq12, q12a, q12b, q12c⟩ := isOf hZ e11 A1_8
  obtain ⟨_, _, ⟨T12, Lq12, kq_12, nq_12⟩, -, X12, ⟨Lc12, hQ12, lq12, yq12, zq12⟩, st12⟩ := X11.virtualBack hx (y := (⟨"com/example/amphisbaena/amphisbaena/format/CheckBudget", "spent", "()Z"⟩ : MethodName)) (z := (⟨"com/example/amphisbaena/amphisbaena/format/CheckBudget", "spent", "()Z"⟩ : MethodName)) hown (mvT hZ (hw _ (List.mem_of_getElem? (i := 26) rfl))) (mvT hZ (hw _ (List.mem_of_getElem? (i := 27) rfl))) (notFace_of_selects (args := #[]) (mvT hZ (hw _ (List.mem_of_getElem? (i := 29) rfl)))) (mvT hZ (hw _ (List.mem_of_getElem? (i := 29) rfl))) (mvT hZ (hw _ (List.mem_of_getElem? (i := 28) rfl))) (by decide) (backOf (W := 0) (rm5 l Z a0 hw [] b1 s2 (0 : Int64) T7.heap n0 ZS7 Fs7 Fd7 A1_8) hZ (hw _ (List.mem_of_getElem? (i := 30) rfl)) (hw _ (List.mem_of_getElem? (i := 2) rfl)) (by decide) (by decide)) q12a q12c (g := (mkF m 53 #[.val (.int p0), .val (.int p1), .val (.int p2), .val (.ref b1), .val (.long (10000000 : Int64)), .second, .val (.long (1000000 : Int64)), .second, .val (.long s_), .second, .val (.int (1 : Int32)), .unset, .unset, .unset, .unset, .unset] [(.ref b1)])) rfl (by rw [hml]; rfl) (Steps.refl _) (argsL := []) (rest := []) (lenOf pd0_3 rfl) rfl (by show 2 * 0 + _ ≤ _; exact Nat.le_of_eq rfl) (hb hby at_53) (fun _ _ => ⟨rfl, e11, (by decide : 1 + 0 ≤ _), (by decide : 2 + 0 ≤ _)⟩)
  dsimp only [Pt.U, Pt.locs, Pt.cells, Pt.slots] at X12 lq12 yq12 zq12 st12 hQ12
  subst lq12 yq12 zq12
  obtain ⟨rfl, Nq12, e12⟩ := hQ12
  have N12 := Fr.app N11 Nq12
  refine OGo.steps st12 ?_
  show OGo p e below _ (T12.setTop (mkF m 56 #[.val (.int p0), .val (.int p1), .val (.int p2), .val (.ref b1), .val (.long (10000000 : Int64)), .second, .val (.long (1000000 : Int64)), .second, .val (.long s_), .second, .val (.int (1 : Int32)), .unset, .unset, .unset, .unset, .unset] [(.int (nar .boolean (if ((10000000 : Int64) - (0 : Int64)) < s2 then (1 : Int32) else (0 : Int32))))]))
  refine OGo.step (fun uK kK => XS.lload X12.here hx rfl (hb hby at_56) rfl kK) ?_
  show OGo p e below _ (T12.setTop (mkF m 58 #[.val (.int p0), .val (.int p1), .val (.int p2), .val (.ref b1), .val (.long (10000000 : Int64)), .second, .val (.long (1000000 : Int64)), .second, .val (.long s_), .second, .val (.int (1 : Int32)), .unset, .unset, .unset, .unset, .unset] [(.long s_), (.int (nar .boolean (if ((10000000 : Int64) - (0 : Int64)) < s2 then (1 : Int32) else (0 : Int32))))]))
  refine OGo.step (fun uK kK => XS.lload X12.here hx rfl (hb hby at_58) rfl kK) ?_
  show OGo p e below _ (T12.setTop (mkF m 60 #[.val (.int p0), .val (.int p1), .val (.int p2), .val (.ref b1), .val (.long (10000000 : Int64)), .second, .val (.long (1000000 : Int64)), .second, .val (.long s_), .second, .val (.int (1 : Int32)), .unset, .unset, .unset, .unset, .unset] [(.long (10000000 : Int64)), (.long s_), (.int (nar .boolean (if ((10000000 : Int64) - (0 : Int64)) < s2 then (1 : Int32) else (0 : Int32))))]))
  refine OGo.step (fun uK kK => XS.lcmp X12.here hx rfl (hb hby at_60) rfl kK) ?_
  show OGo p e below _ (T12.setTop (mkF m 61 #[.val (.int p0), .val (.int p1), .val (.int p2), .val (.ref b1), .val (.long (10000000 : Int64)), .second, .val (.long (1000000 : Int64)), .second, .val (.long s_), .second, .val (.int (1 : Int32)), .unset, .unset, .unset, .unset, .unset] [(.int (lcmpW s_ (10000000 : Int64))), (.int (nar .boolean (if ((10000000 : Int64) - (0 : Int64)) < s2 then (1 : Int32) else (0 : Int32))))]))
  refine OGo.step (t' := T12.setTop (mkF m 69 #[.val (.int p0), .val (.int p1), .val (.int p2), .val (.ref b1), .val (.long (10000000 : Int64)), .second, .val (.long (1000000 : Int64)), .second, .val (.long s_), .second, .val (.int (1 : Int32)), .unset, .unset, .unset, .unset, .unset] [(.int (if (10000000 : Int64) < s_ then (1 : Int32) else (0 : Int32))), (.int (nar .boolean (if ((10000000 : Int64) - (0 : Int64)) < s2 then (1 : Int32) else (0 : Int32))))])) (fun uK kK => ?_) ?_
  · show Steps p.tables e below (T12.setTop (mkF m 61 #[.val (.int p0), .val (.int p1), .val (.int p2), .val (.ref b1), .val (.long (10000000 : Int64)), .second, .val (.long (1000000 : Int64)), .second, .val (.long s_), .second, .val (.int (1 : Int32)), .unset, .unset, .unset, .unset, .unset] [(.int (lcmpW s_ (10000000 : Int64))), (.int (nar .boolean (if ((10000000 : Int64) - (0 : Int64)) < s2 then (1 : Int32) else (0 : Int32))))])) _
    by_cases hm61_13 : (10000000 : Int64) < s_
    · try rw [if_pos hm61_13] at kK
      refine XS.ifNo X12.here hx rfl (hb hby at_61) rfl ((if0 _ _).trans (tlt ((lw_gt _ _).mpr hm61_13)).2.2.2) ?_
      refine XS.iconst X12.here hx rfl (hb hby at_64) ?_
      show Steps p.tables e below (T12.setTop (mkF m 65 #[.val (.int p0), .val (.int p1), .val (.int p2), .val (.ref b1), .val (.long (10000000 : Int64)), .second, .val (.long (1000000 : Int64)), .second, .val (.long s_), .second, .val (.int (1 : Int32)), .unset, .unset, .unset, .unset, .unset] [(.int (1 : Int32)), (.int (nar .boolean (if ((10000000 : Int64) - (0 : Int64)) < s2 then (1 : Int32) else (0 : Int32))))])) _
      refine XS.goto X12.here hx rfl (pc0 := 65) (pc' := 69) rfl (hb hby at_65) (by decide) (by decide) ?_
      show Steps p.tables e below (T12.setTop (mkF m 69 #[.val (.int p0), .val (.int p1), .val (.int p2), .val (.ref b1), .val (.long (10000000 : Int64)), .second, .val (.long (1000000 : Int64)), .second, .val (.long s_), .second, .val (.int (1 : Int32)), .unset, .unset, .unset, .unset, .unset] [(.int (1 : Int32)), (.int (nar .boolean (if ((10000000 : Int64) - (0 : Int64)) < s2 then (1 : Int32) else (0 : Int32))))])) _
      exact kK
    · try rw [if_neg hm61_13] at kK
      refine XS.ifYes X12.here hx rfl (pc0 := 61) (pc' := 68) rfl (hb hby at_61) rfl ((if0 _ _).trans (flt (fun q => hm61_13 ((lw_gt _ _).mp q))).2.2.2) (by decide) (by decide) ?_
      refine XS.iconst X12.here hx rfl (hb hby at_68) ?_
      show Steps p.tables e below (T12.setTop (mkF m 69 #[.val (.int p0), .val (.int p1), .val (.int p2), .val (.ref b1), .val (.long (10000000 : Int64)), .second, .val (.long (1000000 : Int64)), .second, .val (.long s_), .second, .val (.int (1 : Int32)), .unset, .unset, .unset, .unset, .unset] [(.int (0 : Int32)), (.int (nar .boolean (if ((10000000 : Int64) - (0 : Int64)) < s2 then (1 : Int32) else (0 : Int32))))])) _
      exact kK
  show OGo p e below _ (T12.setTop (mkF m 69 #[.val (.int p0), .val (.int p1), .val (.int p2), .val (.ref b1), .val (.long (10000000 : Int64)), .second, .val (.long (1000000 : Int64)), .second, .val (.long s_), .second, .val (.int (1 : Int32)), .unset, .unset, .unset, .unset, .unset] [(.int (if (10000000 : Int64) < s_ then (1 : Int32) else (0 : Int32))), (.int (nar .boolean (if ((10000000 : Int64) - (0 : Int64)) < s2 then (1 : Int32) else (0 : Int32))))]))
  have hc69 : (nar .boolean (if ((10000000 : Int64) - (0 : Int64)) < s2 then (1 : Int32) else (0 : Int32))) = (if (10000000 : Int64) < s_ then (1 : Int32) else (0 : Int32)) := by rw [own_nb, hs2, own_sub0]
  refine OGo.step (fun uK kK => XS.icmpNo X12.here hx rfl (hb hby at_69) rfl (teq hc69).2 kK) ?_
  show OGo p e below _ (T12.setTop (mkF m 72 #[.val (.int p0), .val (.int p1), .val (.int p2), .val (.ref b1), .val (.long (10000000 : Int64)), .second, .val (.long (1000000 : Int64)), .second, .val (.long s_), .second, .val (.int (1 : Int32)), .unset, .unset, .unset, .unset, .unset] []))
  refine OGo.step (fun uK kK => XS.iconst X12.here hx rfl (hb hby at_72) kK) ?_
  show OGo p e below _ (T12.setTop (mkF m 73 #[.val (.int p0), .val (.int p1), .val (.int p2), .val (.ref b1), .val (.long (10000000 : Int64)), .second, .val (.long (1000000 : Int64)), .second, .val (.long s_), .second, .val (.int (1 : Int32)), .unset, .unset, .unset, .unset, .unset] [(.int (1 : Int32))]))
  refine OGo.step (fun uK kK => XS.goto X12.here hx rfl (pc0 := 73) (pc' := 77) rfl (hb hby at_73) (by decide) (by decide) kK) ?_
  show OGo p e below _ (T12.setTop (mkF m 77 #[.val (.int p0), .val (.int p1), .val (.int p2), .val (.ref b1), .val (.long (10000000 : Int64)), .second, .val (.long (1000000 : Int64)), .second, .val (.long s_), .second, .val (.int (1 : Int32)), .unset, .unset, .unset, .unset, .unset] [(.int (1 : Int32))]))
  refine OGo.step (fun uK kK => XS.istore X12.here hx rfl (hb hby at_77) rfl (l' := #[.val (.int p0), .val (.int p1), .val (.int p2), .val (.ref b1), .val (.long (10000000 : Int64)), .second, .val (.long (1000000 : Int64)), .second, .val (.long s_), .second, .val (.int (1 : Int32)), .val (.int (1 : Int32)), .unset, .unset, .unset, .unset]) rfl kK) ?_
  show OGo p e below _ (T12.setTop (mkF m 79 #[.val (.int p0), .val (.int p1), .val (.int p2), .val (.ref b1), .val (.long (10000000 : Int64)), .second, .val (.long (1000000 : Int64)), .second, .val (.long s_), .second, .val (.int (1 : Int32)), .val (.int (1 : Int32)), .unset, .unset, .unset, .unset] []))
  refine OGo.step (fun uK kK => XS.lconst X12.here hx rfl (hb hby at_79) kK) ?_
  show OGo p e below _ (T12.setTop (mkF m 80 #[.val (.int p0), .val (.int p1), .val (.int p2), .val (.ref b1), .val (.long (10000000 : Int64)), .second, .val (.long (1000000 : Int64)), .second, .val (.long s_), .second, .val (.int (1 : Int32)), .val (.int (1 : Int32)), .unset, .unset, .unset, .unset] [(.long (0 : Int64))]))
  refine OGo.step (fun uK kK => XS.lload X12.here hx rfl (hb hby at_80) rfl kK) ?_
  show OGo p e below _ (T12.setTop (mkF m 82 #[.val (.int p0), .val (.int p1), .val (.int p2), .val (.ref b1), .val (.long (10000000 : Int64)), .second, .val (.long (1000000 : Int64)), .second, .val (.long s_), .second, .val (.int (1 : Int32)), .val (.int (1 : Int32)), .unset, .unset, .unset, .unset] [(.long s_), (.long (0 : Int64))]))
  refine OGo.step (fun uK kK => XS.lload X12.here hx rfl (hb hby at_82) rfl kK) ?_
  show OGo p e below _ (T12.setTop (mkF m 84 #[.val (.int p0), .val (.int p1), .val (.int p2), .val (.ref b1), .val (.long (10000000 : Int64)), .second, .val (.long (1000000 : Int64)), .second, .val (.long s_), .second, .val (.int (1 : Int32)), .val (.int (1 : Int32)), .unset, .unset, .unset, .unset] [(.long (1000000 : Int64)), (.long s_), (.long (0 : Int64))]))
  refine OGo.step (fun uK kK => XS.lsub X12.here hx rfl (hb hby at_84) rfl kK) ?_
  show OGo p e below _ (T12.setTop (mkF m 85 #[.val (.int p0), .val (.int p1), .val (.int p2), .val (.ref b1), .val (.long (10000000 : Int64)), .second, .val (.long (1000000 : Int64)), .second, .val (.long s_), .second, .val (.int (1 : Int32)), .val (.int (1 : Int32)), .unset, .unset, .unset, .unset] [(.long (s_ - (1000000 : Int64))), (.long (0 : Int64))]))
  obtain ⟨_, _, ⟨T14, Lq14, kq_14, nq_14⟩, -, X14, ⟨Lc14, hQ14, lq14, yq14, zq14⟩, st14⟩ := Jvm.LawKit.callS X12 hx (y := (⟨"java/lang/Math", "max", "(JJ)J"⟩ : MethodName)) hown (mvT hZ (hw _ (List.mem_of_getElem? (i := 32) rfl))) (mvT hZ (hw _ (List.mem_of_getElem? (i := 33) rfl))) (mvT hZ (hw _ (List.mem_of_getElem? (i := 34) rfl))) (mvT hZ (hw _ (List.mem_of_getElem? (i := 35) rfl))) (by decide) (backOf (W := 0) (rm6 l Z a0 hw [] (0 : Int64) (s_ - (1000000 : Int64))  T7.heap n0 ZS7 ) hZ (hw _ (List.mem_of_getElem? (i := 35) rfl)) (hw _ (List.mem_of_getElem? (i := 34) rfl)) (by decide) (by decide)) (g := (mkF m 85 #[.val (.int p0), .val (.int p1), .val (.int p2), .val (.ref b1), .val (.long (10000000 : Int64)), .second, .val (.long (1000000 : Int64)), .second, .val (.long s_), .second, .val (.int (1 : Int32)), .val (.int (1 : Int32)), .unset, .unset, .unset, .unset] [(.long (s_ - (1000000 : Int64))), (.long (0 : Int64))])) rfl (by rw [hml]; rfl) (argsL := [(.long (0 : Int64)), (.long (s_ - (1000000 : Int64)))]) (rest := []) (lenOf pd0_4 rfl) rfl (by show 2 * 0 + _ ≤ _; exact Nat.le_of_eq rfl) (hb hby at_85) (fun _ _ => ⟨rfl, e12, (by decide : 1 + 0 ≤ _), (by decide : 2 + 0 ≤ _)⟩)
  dsimp only [Pt.U, Pt.locs, Pt.cells, Pt.slots] at X14 lq14 yq14 zq14 st14 hQ14
  subst lq14 yq14 zq14
  obtain ⟨rfl, Nq14, e14⟩ := hQ14
  have N14 := Fr.app N12 Nq14
  refine OGo.step (fun uK kK => st14 uK kK) ?_
  show OGo p e below _ (T14.setTop (mkF m 88 #[.val (.int p0), .val (.int p1), .val (.int p2), .val (.ref b1), .val (.long (10000000 : Int64)), .second, .val (.long (1000000 : Int64)), .second, .val (.long s_), .second, .val (.int (1 : Int32)), .val (.int (1 : Int32)), .unset, .unset, .unset, .unset] [(.long (if (0 : Int64) < (s_ - (1000000 : Int64)) then (s_ - (1000000 : Int64)) else (0 : Int64)))]))
  obtain ⟨dw, ev_dw⟩ : ∃ z : Int64, z = (if (0 : Int64) < (s_ - (1000000 : Int64)) then (s_ - (1000000 : Int64)) else (0 : Int64)) := ⟨_, rfl⟩
  rw [← ev_dw]
  show OGo p e below _ (T14.setTop (mkF m 88 #[.val (.int p0), .val (.int p1), .val (.int p2), .val (.ref b1), .val (.long (10000000 : Int64)), .second, .val (.long (1000000 : Int64)), .second, .val (.long s_), .second, .val (.int (1 : Int32)), .val (.int (1 : Int32)), .unset, .unset, .unset, .unset] [(.long dw)]))
  refine OGo.step (fun uK kK => XS.lstore X14.here hx rfl (hb hby at_88) rfl (l' := #[.val (.int p0), .val (.int p1), .val (.int p2), .val (.ref b1), .val (.long (10000000 : Int64)), .second, .val (.long (1000000 : Int64)), .second, .val (.long s_), .second, .val (.int (1 : Int32)), .val (.int (1 : Int32)), .val (.long dw), .second, .unset, .unset]) rfl kK) ?_
  show OGo p e below _ (T14.setTop (mkF m 90 #[.val (.int p0), .val (.int p1), .val (.int p2), .val (.ref b1), .val (.long (10000000 : Int64)), .second, .val (.long (1000000 : Int64)), .second, .val (.long s_), .second, .val (.int (1 : Int32)), .val (.int (1 : Int32)), .val (.long dw), .second, .unset, .unset] []))
  refine OGo.step (fun uK kK => XS.aloadN X14.here hx rfl (hb hby at_90) rfl rfl kK) ?_
  show OGo p e below _ (T14.setTop (mkF m 91 #[.val (.int p0), .val (.int p1), .val (.int p2), .val (.ref b1), .val (.long (10000000 : Int64)), .second, .val (.long (1000000 : Int64)), .second, .val (.long s_), .second, .val (.int (1 : Int32)), .val (.int (1 : Int32)), .val (.long dw), .second, .unset, .unset] [(.ref b1)]))
  obtain ⟨cq15, kq15, q15a, q15b, q15c⟩ := isOf hZ e14 A1_8
  obtain ⟨_, _, ⟨T15, Lq15, kq_15, nq_15⟩, -, X15, ⟨Lc15, hQ15, lq15, yq15, zq15⟩, st15⟩ := X14.virtualBack hx (y := (⟨"com/example/amphisbaena/amphisbaena/format/CheckBudget", "startComparison", "()V"⟩ : MethodName)) (z := (⟨"com/example/amphisbaena/amphisbaena/format/CheckBudget", "startComparison", "()V"⟩ : MethodName)) hown (mvT hZ (hw _ (List.mem_of_getElem? (i := 36) rfl))) (mvT hZ (hw _ (List.mem_of_getElem? (i := 37) rfl))) (notFace_of_selects (args := #[]) (mvT hZ (hw _ (List.mem_of_getElem? (i := 39) rfl)))) (mvT hZ (hw _ (List.mem_of_getElem? (i := 39) rfl))) (mvT hZ (hw _ (List.mem_of_getElem? (i := 38) rfl))) (by decide) (backOf (W := 0) (rm7 l Z a0 hw [] b1 s2 (0 : Int64) T7.heap n0 ZS7 Fs7 Fd7 A1_8 gn_b1) hZ (hw _ (List.mem_of_getElem? (i := 40) rfl)) (hw _ (List.mem_of_getElem? (i := 2) rfl)) (by decide) (by decide)) q15a q15c (g := (mkF m 91 #[.val (.int p0), .val (.int p1), .val (.int p2), .val (.ref b1), .val (.long (10000000 : Int64)), .second, .val (.long (1000000 : Int64)), .second, .val (.long s_), .second, .val (.int (1 : Int32)), .val (.int (1 : Int32)), .val (.long dw), .second, .unset, .unset] [(.ref b1)])) rfl (by rw [hml]; rfl) (Steps.refl _) (argsL := []) (rest := []) (lenOf pd0_0 rfl) rfl (by show 2 * 0 + _ ≤ _; exact Nat.le_of_eq rfl) (hb hby at_91) (fun _ _ => ⟨rfl, e14, (by decide : 1 + 0 ≤ _), (by decide : 2 + 0 ≤ _)⟩)
  dsimp only [Pt.U, Pt.locs, Pt.cells, Pt.slots] at X15 lq15 yq15 zq15 st15 hQ15
  subst lq15 yq15 zq15
  obtain ⟨rfl, Nq15, K15, Fs15, Fd15⟩ := hQ15
  have A1_16 := (A1_8.keep K15)
  have ZS15 : n0 ≤ T15.heap.size := Nat.le_trans ZS7 K15.1
  have KC15 : Keep h0 T15.heap [] := KC7.trans K15 (allS (Or.inr sz_b1) all0)
  have N15 := Fr.app N14 Nq15
  refine OGo.steps st15 ?_
  show OGo p e below _ (T15.setTop (mkF m 94 #[.val (.int p0), .val (.int p1), .val (.int p2), .val (.ref b1), .val (.long (10000000 : Int64)), .second, .val (.long (1000000 : Int64)), .second, .val (.long s_), .second, .val (.int (1 : Int32)), .val (.int (1 : Int32)), .val (.long dw), .second, .unset, .unset] []))
  obtain ⟨dr2, ev_dr2⟩ : ∃ z : Int64, z = ((0 : Int64) + (if (0 : Int64) < (s2 - (1000000 : Int64)) then (s2 - (1000000 : Int64)) else (0 : Int64))) := ⟨_, rfl⟩
  rw [← ev_dr2] at Fd15
  have hdr : dr2 = dw := by rw [ev_dr2, ev_dw, hs2, own_zero]
  refine OGo.step (fun uK kK => XS.aloadN X15.here hx rfl (hb hby at_94) rfl rfl kK) ?_
  show OGo p e below _ (T15.setTop (mkF m 95 #[.val (.int p0), .val (.int p1), .val (.int p2), .val (.ref b1), .val (.long (10000000 : Int64)), .second, .val (.long (1000000 : Int64)), .second, .val (.long s_), .second, .val (.int (1 : Int32)), .val (.int (1 : Int32)), .val (.long dw), .second, .unset, .unset] [(.ref b1)]))
  obtain ⟨cq19, kq19, q19a, q19b, q19c⟩ := isOf hZ rfl A1_16
  obtain ⟨_, _, ⟨T19, Lq19, kq_19, nq_19⟩, -, X19, ⟨Lc19, hQ19, lq19, yq19, zq19⟩, st19⟩ := X15.virtualBack hx (y := (⟨"com/example/amphisbaena/amphisbaena/format/CheckBudget", "limit", "()J"⟩ : MethodName)) (z := (⟨"com/example/amphisbaena/amphisbaena/format/CheckBudget", "limit", "()J"⟩ : MethodName)) hown (mvT hZ (hw _ (List.mem_of_getElem? (i := 18) rfl))) (mvT hZ (hw _ (List.mem_of_getElem? (i := 19) rfl))) (notFace_of_selects (args := #[]) (mvT hZ (hw _ (List.mem_of_getElem? (i := 21) rfl)))) (mvT hZ (hw _ (List.mem_of_getElem? (i := 21) rfl))) (mvT hZ (hw _ (List.mem_of_getElem? (i := 20) rfl))) (by decide) (backOf (W := 0) (rm4 l Z a0 hw [] b1 dr2 T15.heap n0 ZS15 Fd15) hZ (hw _ (List.mem_of_getElem? (i := 22) rfl)) (hw _ (List.mem_of_getElem? (i := 2) rfl)) (by decide) (by decide)) q19a q19c (g := (mkF m 95 #[.val (.int p0), .val (.int p1), .val (.int p2), .val (.ref b1), .val (.long (10000000 : Int64)), .second, .val (.long (1000000 : Int64)), .second, .val (.long s_), .second, .val (.int (1 : Int32)), .val (.int (1 : Int32)), .val (.long dw), .second, .unset, .unset] [(.ref b1)])) rfl (by rw [hml]; rfl) (Steps.refl _) (argsL := []) (rest := []) (lenOf pd0_2 rfl) rfl (by show 2 * 0 + _ ≤ _; exact Nat.le_of_eq rfl) (hb hby at_95) (fun _ _ => ⟨rfl, rfl, (by decide : 1 + 0 ≤ _), (by decide : 2 + 0 ≤ _)⟩)
  dsimp only [Pt.U, Pt.locs, Pt.cells, Pt.slots] at X19 lq19 yq19 zq19 st19 hQ19
  subst lq19 yq19 zq19
  obtain ⟨rfl, Nq19, e19⟩ := hQ19
  have N19 := Fr.app N15 Nq19
  refine OGo.steps st19 ?_
  show OGo p e below _ (T19.setTop (mkF m 98 #[.val (.int p0), .val (.int p1), .val (.int p2), .val (.ref b1), .val (.long (10000000 : Int64)), .second, .val (.long (1000000 : Int64)), .second, .val (.long s_), .second, .val (.int (1 : Int32)), .val (.int (1 : Int32)), .val (.long dw), .second, .unset, .unset] [(.long ((10000000 : Int64) - dr2))]))
  refine OGo.step (fun uK kK => XS.lload X19.here hx rfl (hb hby at_98) rfl kK) ?_
  show OGo p e below _ (T19.setTop (mkF m 100 #[.val (.int p0), .val (.int p1), .val (.int p2), .val (.ref b1), .val (.long (10000000 : Int64)), .second, .val (.long (1000000 : Int64)), .second, .val (.long s_), .second, .val (.int (1 : Int32)), .val (.int (1 : Int32)), .val (.long dw), .second, .unset, .unset] [(.long (10000000 : Int64)), (.long ((10000000 : Int64) - dr2))]))
  refine OGo.step (fun uK kK => XS.lload X19.here hx rfl (hb hby at_100) rfl kK) ?_
  show OGo p e below _ (T19.setTop (mkF m 102 #[.val (.int p0), .val (.int p1), .val (.int p2), .val (.ref b1), .val (.long (10000000 : Int64)), .second, .val (.long (1000000 : Int64)), .second, .val (.long s_), .second, .val (.int (1 : Int32)), .val (.int (1 : Int32)), .val (.long dw), .second, .unset, .unset] [(.long dw), (.long (10000000 : Int64)), (.long ((10000000 : Int64) - dr2))]))
  refine OGo.step (fun uK kK => XS.lsub X19.here hx rfl (hb hby at_102) rfl kK) ?_
  show OGo p e below _ (T19.setTop (mkF m 103 #[.val (.int p0), .val (.int p1), .val (.int p2), .val (.ref b1), .val (.long (10000000 : Int64)), .second, .val (.long (1000000 : Int64)), .second, .val (.long s_), .second, .val (.int (1 : Int32)), .val (.int (1 : Int32)), .val (.long dw), .second, .unset, .unset] [(.long ((10000000 : Int64) - dw)), (.long ((10000000 : Int64) - dr2))]))
  refine OGo.step (fun uK kK => XS.lcmp X19.here hx rfl (hb hby at_103) rfl kK) ?_
  show OGo p e below _ (T19.setTop (mkF m 104 #[.val (.int p0), .val (.int p1), .val (.int p2), .val (.ref b1), .val (.long (10000000 : Int64)), .second, .val (.long (1000000 : Int64)), .second, .val (.long s_), .second, .val (.int (1 : Int32)), .val (.int (1 : Int32)), .val (.long dw), .second, .unset, .unset] [(.int (lcmpW ((10000000 : Int64) - dr2) ((10000000 : Int64) - dw)))]))
  have hc104 : ((10000000 : Int64) - dr2) = ((10000000 : Int64) - dw) := by rw [hdr]
  refine OGo.step (fun uK kK => XS.ifNo X19.here hx rfl (hb hby at_104) rfl ((if0 _ _).trans (teq ((lw_eq _ _).mpr hc104)).2) kK) ?_
  show OGo p e below _ (T19.setTop (mkF m 107 #[.val (.int p0), .val (.int p1), .val (.int p2), .val (.ref b1), .val (.long (10000000 : Int64)), .second, .val (.long (1000000 : Int64)), .second, .val (.long s_), .second, .val (.int (1 : Int32)), .val (.int (1 : Int32)), .val (.long dw), .second, .unset, .unset] []))
  refine OGo.step (fun uK kK => XS.iconst X19.here hx rfl (hb hby at_107) kK) ?_
  show OGo p e below _ (T19.setTop (mkF m 108 #[.val (.int p0), .val (.int p1), .val (.int p2), .val (.ref b1), .val (.long (10000000 : Int64)), .second, .val (.long (1000000 : Int64)), .second, .val (.long s_), .second, .val (.int (1 : Int32)), .val (.int (1 : Int32)), .val (.long dw), .second, .unset, .unset] [(.int (1 : Int32))]))
  refine OGo.step (fun uK kK => XS.goto X19.here hx rfl (pc0 := 108) (pc' := 112) rfl (hb hby at_108) (by decide) (by decide) kK) ?_
  show OGo p e below _ (T19.setTop (mkF m 112 #[.val (.int p0), .val (.int p1), .val (.int p2), .val (.ref b1), .val (.long (10000000 : Int64)), .second, .val (.long (1000000 : Int64)), .second, .val (.long s_), .second, .val (.int (1 : Int32)), .val (.int (1 : Int32)), .val (.long dw), .second, .unset, .unset] [(.int (1 : Int32))]))
  refine OGo.step (fun uK kK => XS.istore X19.here hx rfl (hb hby at_112) rfl (l' := #[.val (.int p0), .val (.int p1), .val (.int p2), .val (.ref b1), .val (.long (10000000 : Int64)), .second, .val (.long (1000000 : Int64)), .second, .val (.long s_), .second, .val (.int (1 : Int32)), .val (.int (1 : Int32)), .val (.long dw), .second, .val (.int (1 : Int32)), .unset]) rfl kK) ?_
  show OGo p e below _ (T19.setTop (mkF m 114 #[.val (.int p0), .val (.int p1), .val (.int p2), .val (.ref b1), .val (.long (10000000 : Int64)), .second, .val (.long (1000000 : Int64)), .second, .val (.long s_), .second, .val (.int (1 : Int32)), .val (.int (1 : Int32)), .val (.long dw), .second, .val (.int (1 : Int32)), .unset] []))
  refine OGo.step (fun uK kK => XS.aloadN X19.here hx rfl (hb hby at_114) rfl rfl kK) ?_
  show OGo p e below _ (T19.setTop (mkF m 115 #[.val (.int p0), .val (.int p1), .val (.int p2), .val (.ref b1), .val (.long (10000000 : Int64)), .second, .val (.long (1000000 : Int64)), .second, .val (.long s_), .second, .val (.int (1 : Int32)), .val (.int (1 : Int32)), .val (.long dw), .second, .val (.int (1 : Int32)), .unset] [(.ref b1)]))
  refine OGo.step (fun uK kK => XS.iloadN X19.here hx rfl (hb hby at_115) rfl kK) ?_
  show OGo p e below _ (T19.setTop (mkF m 116 #[.val (.int p0), .val (.int p1), .val (.int p2), .val (.ref b1), .val (.long (10000000 : Int64)), .second, .val (.long (1000000 : Int64)), .second, .val (.long s_), .second, .val (.int (1 : Int32)), .val (.int (1 : Int32)), .val (.long dw), .second, .val (.int (1 : Int32)), .unset] [(.int p2), (.ref b1)]))
  obtain ⟨cq20, kq20, q20a, q20b, q20c⟩ := isOf hZ e19 A1_16
  obtain ⟨_, _, ⟨T20, Lq20, kq_20, nq_20⟩, -, X20, ⟨Lc20, hQ20, lq20, yq20, zq20⟩, st20⟩ := X19.virtualBack hx (y := (⟨"com/example/amphisbaena/amphisbaena/format/CheckBudget", "take", "(I)V"⟩ : MethodName)) (z := (⟨"com/example/amphisbaena/amphisbaena/format/CheckBudget", "take", "(I)V"⟩ : MethodName)) hown (mvT hZ (hw _ (List.mem_of_getElem? (i := 11) rfl))) (mvT hZ (hw _ (List.mem_of_getElem? (i := 12) rfl))) (notFace_of_selects (args := #[]) (mvT hZ (hw _ (List.mem_of_getElem? (i := 14) rfl)))) (mvT hZ (hw _ (List.mem_of_getElem? (i := 14) rfl))) (mvT hZ (hw _ (List.mem_of_getElem? (i := 13) rfl))) (by decide) (backOf (W := 0) (rm3 l Z a0 hw [] b1 p2 (0 : Int64) dr2 T15.heap n0 ZS15 Fs15 Fd15 A1_16 gn_b1) hZ (hw _ (List.mem_of_getElem? (i := 15) rfl)) (hw _ (List.mem_of_getElem? (i := 2) rfl)) (by decide) (by decide)) q20a q20c (g := (mkF m 116 #[.val (.int p0), .val (.int p1), .val (.int p2), .val (.ref b1), .val (.long (10000000 : Int64)), .second, .val (.long (1000000 : Int64)), .second, .val (.long s_), .second, .val (.int (1 : Int32)), .val (.int (1 : Int32)), .val (.long dw), .second, .val (.int (1 : Int32)), .unset] [(.int p2), (.ref b1)])) rfl (by rw [hml]; rfl) (Steps.refl _) (argsL := [(.int p2)]) (rest := []) (lenOf pd0_1 rfl) rfl (by show 2 * 0 + _ ≤ _; exact Nat.le_of_eq rfl) (hb hby at_116) (fun _ _ => ⟨rfl, e19, (by decide : 1 + 0 ≤ _), (by decide : 2 + 0 ≤ _)⟩)
  dsimp only [Pt.U, Pt.locs, Pt.cells, Pt.slots] at X20 lq20 yq20 zq20 st20 hQ20
  subst lq20 yq20 zq20
  obtain ⟨rfl, Nq20, K20, Fs20, Fd20⟩ := hQ20
  have A1_21 := (A1_16.keep K20)
  have ZS20 : n0 ≤ T20.heap.size := Nat.le_trans ZS15 K20.1
  have KC20 : Keep h0 T20.heap [] := KC15.trans K20 (allS (Or.inr sz_b1) all0)
  have N20 := Fr.app N19 Nq20
  refine OGo.steps st20 ?_
  show OGo p e below _ (T20.setTop (mkF m 119 #[.val (.int p0), .val (.int p1), .val (.int p2), .val (.ref b1), .val (.long (10000000 : Int64)), .second, .val (.long (1000000 : Int64)), .second, .val (.long s_), .second, .val (.int (1 : Int32)), .val (.int (1 : Int32)), .val (.long dw), .second, .val (.int (1 : Int32)), .unset] []))
  obtain ⟨s3, ev_s3⟩ : ∃ z : Int64, z = ((0 : Int64) + (p2.toInt64)) := ⟨_, rfl⟩
  rw [← ev_s3] at Fs20
  refine OGo.step (fun uK kK => XS.aloadN X20.here hx rfl (hb hby at_119) rfl rfl kK) ?_
  show OGo p e below _ (T20.setTop (mkF m 120 #[.val (.int p0), .val (.int p1), .val (.int p2), .val (.ref b1), .val (.long (10000000 : Int64)), .second, .val (.long (1000000 : Int64)), .second, .val (.long s_), .second, .val (.int (1 : Int32)), .val (.int (1 : Int32)), .val (.long dw), .second, .val (.int (1 : Int32)), .unset] [(.ref b1)]))
  obtain ⟨cq24, kq24, q24a, q24b, q24c⟩ := isOf hZ rfl A1_21
  obtain ⟨_, _, ⟨T24, Lq24, kq_24, nq_24⟩, -, X24, ⟨Lc24, hQ24, lq24, yq24, zq24⟩, st24⟩ := X20.virtualBack hx (y := (⟨"com/example/amphisbaena/amphisbaena/format/CheckBudget", "spent", "()Z"⟩ : MethodName)) (z := (⟨"com/example/amphisbaena/amphisbaena/format/CheckBudget", "spent", "()Z"⟩ : MethodName)) hown (mvT hZ (hw _ (List.mem_of_getElem? (i := 26) rfl))) (mvT hZ (hw _ (List.mem_of_getElem? (i := 27) rfl))) (notFace_of_selects (args := #[]) (mvT hZ (hw _ (List.mem_of_getElem? (i := 29) rfl)))) (mvT hZ (hw _ (List.mem_of_getElem? (i := 29) rfl))) (mvT hZ (hw _ (List.mem_of_getElem? (i := 28) rfl))) (by decide) (backOf (W := 0) (rm5 l Z a0 hw [] b1 s3 dr2 T20.heap n0 ZS20 Fs20 Fd20 A1_21) hZ (hw _ (List.mem_of_getElem? (i := 30) rfl)) (hw _ (List.mem_of_getElem? (i := 2) rfl)) (by decide) (by decide)) q24a q24c (g := (mkF m 120 #[.val (.int p0), .val (.int p1), .val (.int p2), .val (.ref b1), .val (.long (10000000 : Int64)), .second, .val (.long (1000000 : Int64)), .second, .val (.long s_), .second, .val (.int (1 : Int32)), .val (.int (1 : Int32)), .val (.long dw), .second, .val (.int (1 : Int32)), .unset] [(.ref b1)])) rfl (by rw [hml]; rfl) (Steps.refl _) (argsL := []) (rest := []) (lenOf pd0_3 rfl) rfl (by show 2 * 0 + _ ≤ _; exact Nat.le_of_eq rfl) (hb hby at_120) (fun _ _ => ⟨rfl, rfl, (by decide : 1 + 0 ≤ _), (by decide : 2 + 0 ≤ _)⟩)
  dsimp only [Pt.U, Pt.locs, Pt.cells, Pt.slots] at X24 lq24 yq24 zq24 st24 hQ24
  subst lq24 yq24 zq24
  obtain ⟨rfl, Nq24, e24⟩ := hQ24
  have N24 := Fr.app N20 Nq24
  refine OGo.steps st24 ?_
  show OGo p e below _ (T24.setTop (mkF m 123 #[.val (.int p0), .val (.int p1), .val (.int p2), .val (.ref b1), .val (.long (10000000 : Int64)), .second, .val (.long (1000000 : Int64)), .second, .val (.long s_), .second, .val (.int (1 : Int32)), .val (.int (1 : Int32)), .val (.long dw), .second, .val (.int (1 : Int32)), .unset] [(.int (nar .boolean (if ((10000000 : Int64) - dr2) < s3 then (1 : Int32) else (0 : Int32))))]))
  refine OGo.step (fun uK kK => XS.iloadN X24.here hx rfl (hb hby at_123) rfl kK) ?_
  show OGo p e below _ (T24.setTop (mkF m 124 #[.val (.int p0), .val (.int p1), .val (.int p2), .val (.ref b1), .val (.long (10000000 : Int64)), .second, .val (.long (1000000 : Int64)), .second, .val (.long s_), .second, .val (.int (1 : Int32)), .val (.int (1 : Int32)), .val (.long dw), .second, .val (.int (1 : Int32)), .unset] [(.int p2), (.int (nar .boolean (if ((10000000 : Int64) - dr2) < s3 then (1 : Int32) else (0 : Int32))))]))
  refine OGo.step (fun uK kK => XS.i2l X24.here hx rfl (hb hby at_124) rfl kK) ?_
  show OGo p e below _ (T24.setTop (mkF m 125 #[.val (.int p0), .val (.int p1), .val (.int p2), .val (.ref b1), .val (.long (10000000 : Int64)), .second, .val (.long (1000000 : Int64)), .second, .val (.long s_), .second, .val (.int (1 : Int32)), .val (.int (1 : Int32)), .val (.long dw), .second, .val (.int (1 : Int32)), .unset] [(.long (p2.toInt64)), (.int (nar .boolean (if ((10000000 : Int64) - dr2) < s3 then (1 : Int32) else (0 : Int32))))]))
  refine OGo.step (fun uK kK => XS.lload X24.here hx rfl (hb hby at_125) rfl kK) ?_
  show OGo p e below _ (T24.setTop (mkF m 127 #[.val (.int p0), .val (.int p1), .val (.int p2), .val (.ref b1), .val (.long (10000000 : Int64)), .second, .val (.long (1000000 : Int64)), .second, .val (.long s_), .second, .val (.int (1 : Int32)), .val (.int (1 : Int32)), .val (.long dw), .second, .val (.int (1 : Int32)), .unset] [(.long (10000000 : Int64)), (.long (p2.toInt64)), (.int (nar .boolean (if ((10000000 : Int64) - dr2) < s3 then (1 : Int32) else (0 : Int32))))]))
  refine OGo.step (fun uK kK => XS.lload X24.here hx rfl (hb hby at_127) rfl kK) ?_
  show OGo p e below _ (T24.setTop (mkF m 129 #[.val (.int p0), .val (.int p1), .val (.int p2), .val (.ref b1), .val (.long (10000000 : Int64)), .second, .val (.long (1000000 : Int64)), .second, .val (.long s_), .second, .val (.int (1 : Int32)), .val (.int (1 : Int32)), .val (.long dw), .second, .val (.int (1 : Int32)), .unset] [(.long dw), (.long (10000000 : Int64)), (.long (p2.toInt64)), (.int (nar .boolean (if ((10000000 : Int64) - dr2) < s3 then (1 : Int32) else (0 : Int32))))]))
  refine OGo.step (fun uK kK => XS.lsub X24.here hx rfl (hb hby at_129) rfl kK) ?_
  show OGo p e below _ (T24.setTop (mkF m 130 #[.val (.int p0), .val (.int p1), .val (.int p2), .val (.ref b1), .val (.long (10000000 : Int64)), .second, .val (.long (1000000 : Int64)), .second, .val (.long s_), .second, .val (.int (1 : Int32)), .val (.int (1 : Int32)), .val (.long dw), .second, .val (.int (1 : Int32)), .unset] [(.long ((10000000 : Int64) - dw)), (.long (p2.toInt64)), (.int (nar .boolean (if ((10000000 : Int64) - dr2) < s3 then (1 : Int32) else (0 : Int32))))]))
  refine OGo.step (fun uK kK => XS.lcmp X24.here hx rfl (hb hby at_130) rfl kK) ?_
  show OGo p e below _ (T24.setTop (mkF m 131 #[.val (.int p0), .val (.int p1), .val (.int p2), .val (.ref b1), .val (.long (10000000 : Int64)), .second, .val (.long (1000000 : Int64)), .second, .val (.long s_), .second, .val (.int (1 : Int32)), .val (.int (1 : Int32)), .val (.long dw), .second, .val (.int (1 : Int32)), .unset] [(.int (lcmpW (p2.toInt64) ((10000000 : Int64) - dw))), (.int (nar .boolean (if ((10000000 : Int64) - dr2) < s3 then (1 : Int32) else (0 : Int32))))]))
  refine OGo.step (t' := T24.setTop (mkF m 139 #[.val (.int p0), .val (.int p1), .val (.int p2), .val (.ref b1), .val (.long (10000000 : Int64)), .second, .val (.long (1000000 : Int64)), .second, .val (.long s_), .second, .val (.int (1 : Int32)), .val (.int (1 : Int32)), .val (.long dw), .second, .val (.int (1 : Int32)), .unset] [(.int (if ((10000000 : Int64) - dw) < (p2.toInt64) then (1 : Int32) else (0 : Int32))), (.int (nar .boolean (if ((10000000 : Int64) - dr2) < s3 then (1 : Int32) else (0 : Int32))))])) (fun uK kK => ?_) ?_
  · show Steps p.tables e below (T24.setTop (mkF m 131 #[.val (.int p0), .val (.int p1), .val (.int p2), .val (.ref b1), .val (.long (10000000 : Int64)), .second, .val (.long (1000000 : Int64)), .second, .val (.long s_), .second, .val (.int (1 : Int32)), .val (.int (1 : Int32)), .val (.long dw), .second, .val (.int (1 : Int32)), .unset] [(.int (lcmpW (p2.toInt64) ((10000000 : Int64) - dw))), (.int (nar .boolean (if ((10000000 : Int64) - dr2) < s3 then (1 : Int32) else (0 : Int32))))])) _
    by_cases hm131_25 : ((10000000 : Int64) - dw) < (p2.toInt64)
    · try rw [if_pos hm131_25] at kK
      refine XS.ifNo X24.here hx rfl (hb hby at_131) rfl ((if0 _ _).trans (tlt ((lw_gt _ _).mpr hm131_25)).2.2.2) ?_
      refine XS.iconst X24.here hx rfl (hb hby at_134) ?_
      show Steps p.tables e below (T24.setTop (mkF m 135 #[.val (.int p0), .val (.int p1), .val (.int p2), .val (.ref b1), .val (.long (10000000 : Int64)), .second, .val (.long (1000000 : Int64)), .second, .val (.long s_), .second, .val (.int (1 : Int32)), .val (.int (1 : Int32)), .val (.long dw), .second, .val (.int (1 : Int32)), .unset] [(.int (1 : Int32)), (.int (nar .boolean (if ((10000000 : Int64) - dr2) < s3 then (1 : Int32) else (0 : Int32))))])) _
      refine XS.goto X24.here hx rfl (pc0 := 135) (pc' := 139) rfl (hb hby at_135) (by decide) (by decide) ?_
      show Steps p.tables e below (T24.setTop (mkF m 139 #[.val (.int p0), .val (.int p1), .val (.int p2), .val (.ref b1), .val (.long (10000000 : Int64)), .second, .val (.long (1000000 : Int64)), .second, .val (.long s_), .second, .val (.int (1 : Int32)), .val (.int (1 : Int32)), .val (.long dw), .second, .val (.int (1 : Int32)), .unset] [(.int (1 : Int32)), (.int (nar .boolean (if ((10000000 : Int64) - dr2) < s3 then (1 : Int32) else (0 : Int32))))])) _
      exact kK
    · try rw [if_neg hm131_25] at kK
      refine XS.ifYes X24.here hx rfl (pc0 := 131) (pc' := 138) rfl (hb hby at_131) rfl ((if0 _ _).trans (flt (fun q => hm131_25 ((lw_gt _ _).mp q))).2.2.2) (by decide) (by decide) ?_
      refine XS.iconst X24.here hx rfl (hb hby at_138) ?_
      show Steps p.tables e below (T24.setTop (mkF m 139 #[.val (.int p0), .val (.int p1), .val (.int p2), .val (.ref b1), .val (.long (10000000 : Int64)), .second, .val (.long (1000000 : Int64)), .second, .val (.long s_), .second, .val (.int (1 : Int32)), .val (.int (1 : Int32)), .val (.long dw), .second, .val (.int (1 : Int32)), .unset] [(.int (0 : Int32)), (.int (nar .boolean (if ((10000000 : Int64) - dr2) < s3 then (1 : Int32) else (0 : Int32))))])) _
      exact kK
  show OGo p e below _ (T24.setTop (mkF m 139 #[.val (.int p0), .val (.int p1), .val (.int p2), .val (.ref b1), .val (.long (10000000 : Int64)), .second, .val (.long (1000000 : Int64)), .second, .val (.long s_), .second, .val (.int (1 : Int32)), .val (.int (1 : Int32)), .val (.long dw), .second, .val (.int (1 : Int32)), .unset] [(.int (if ((10000000 : Int64) - dw) < (p2.toInt64) then (1 : Int32) else (0 : Int32))), (.int (nar .boolean (if ((10000000 : Int64) - dr2) < s3 then (1 : Int32) else (0 : Int32))))]))
  have hc139 : (nar .boolean (if ((10000000 : Int64) - dr2) < s3 then (1 : Int32) else (0 : Int32))) = (if ((10000000 : Int64) - dw) < (p2.toInt64) then (1 : Int32) else (0 : Int32)) := by rw [own_nb, ev_s3, hdr, own_zero]
  refine OGo.step (fun uK kK => XS.icmpNo X24.here hx rfl (hb hby at_139) rfl (teq hc139).2 kK) ?_
  show OGo p e below _ (T24.setTop (mkF m 142 #[.val (.int p0), .val (.int p1), .val (.int p2), .val (.ref b1), .val (.long (10000000 : Int64)), .second, .val (.long (1000000 : Int64)), .second, .val (.long s_), .second, .val (.int (1 : Int32)), .val (.int (1 : Int32)), .val (.long dw), .second, .val (.int (1 : Int32)), .unset] []))
  refine OGo.step (fun uK kK => XS.iconst X24.here hx rfl (hb hby at_142) kK) ?_
  show OGo p e below _ (T24.setTop (mkF m 143 #[.val (.int p0), .val (.int p1), .val (.int p2), .val (.ref b1), .val (.long (10000000 : Int64)), .second, .val (.long (1000000 : Int64)), .second, .val (.long s_), .second, .val (.int (1 : Int32)), .val (.int (1 : Int32)), .val (.long dw), .second, .val (.int (1 : Int32)), .unset] [(.int (1 : Int32))]))
  refine OGo.step (fun uK kK => XS.goto X24.here hx rfl (pc0 := 143) (pc' := 147) rfl (hb hby at_143) (by decide) (by decide) kK) ?_
  show OGo p e below _ (T24.setTop (mkF m 147 #[.val (.int p0), .val (.int p1), .val (.int p2), .val (.ref b1), .val (.long (10000000 : Int64)), .second, .val (.long (1000000 : Int64)), .second, .val (.long s_), .second, .val (.int (1 : Int32)), .val (.int (1 : Int32)), .val (.long dw), .second, .val (.int (1 : Int32)), .unset] [(.int (1 : Int32))]))
  refine OGo.step (fun uK kK => XS.istore X24.here hx rfl (hb hby at_147) rfl (l' := #[.val (.int p0), .val (.int p1), .val (.int p2), .val (.ref b1), .val (.long (10000000 : Int64)), .second, .val (.long (1000000 : Int64)), .second, .val (.long s_), .second, .val (.int (1 : Int32)), .val (.int (1 : Int32)), .val (.long dw), .second, .val (.int (1 : Int32)), .val (.int (1 : Int32))]) rfl kK) ?_
  show OGo p e below _ (T24.setTop (mkF m 149 #[.val (.int p0), .val (.int p1), .val (.int p2), .val (.ref b1), .val (.long (10000000 : Int64)), .second, .val (.long (1000000 : Int64)), .second, .val (.long s_), .second, .val (.int (1 : Int32)), .val (.int (1 : Int32)), .val (.long dw), .second, .val (.int (1 : Int32)), .val (.int (1 : Int32))] []))
  refine OGo.step (fun uK kK => XS.iload X24.here hx rfl (hb hby at_149) rfl kK) ?_
  show OGo p e below _ (T24.setTop (mkF m 151 #[.val (.int p0), .val (.int p1), .val (.int p2), .val (.ref b1), .val (.long (10000000 : Int64)), .second, .val (.long (1000000 : Int64)), .second, .val (.long s_), .second, .val (.int (1 : Int32)), .val (.int (1 : Int32)), .val (.long dw), .second, .val (.int (1 : Int32)), .val (.int (1 : Int32))] [(.int (1 : Int32))]))
  have hc151 : ¬ ((1 : Int32) = (0 : Int32)) := by decide
  refine OGo.step (fun uK kK => XS.ifNo X24.here hx rfl (hb hby at_151) rfl ((if0 _ _).trans (feq hc151).1) kK) ?_
  show OGo p e below _ (T24.setTop (mkF m 154 #[.val (.int p0), .val (.int p1), .val (.int p2), .val (.ref b1), .val (.long (10000000 : Int64)), .second, .val (.long (1000000 : Int64)), .second, .val (.long s_), .second, .val (.int (1 : Int32)), .val (.int (1 : Int32)), .val (.long dw), .second, .val (.int (1 : Int32)), .val (.int (1 : Int32))] []))
  refine OGo.step (fun uK kK => XS.iload X24.here hx rfl (hb hby at_154) rfl kK) ?_
  show OGo p e below _ (T24.setTop (mkF m 156 #[.val (.int p0), .val (.int p1), .val (.int p2), .val (.ref b1), .val (.long (10000000 : Int64)), .second, .val (.long (1000000 : Int64)), .second, .val (.long s_), .second, .val (.int (1 : Int32)), .val (.int (1 : Int32)), .val (.long dw), .second, .val (.int (1 : Int32)), .val (.int (1 : Int32))] [(.int (1 : Int32))]))
  have hc156 : ¬ ((1 : Int32) = (0 : Int32)) := by decide
  refine OGo.step (fun uK kK => XS.ifNo X24.here hx rfl (hb hby at_156) rfl ((if0 _ _).trans (feq hc156).1) kK) ?_
  show OGo p e below _ (T24.setTop (mkF m 159 #[.val (.int p0), .val (.int p1), .val (.int p2), .val (.ref b1), .val (.long (10000000 : Int64)), .second, .val (.long (1000000 : Int64)), .second, .val (.long s_), .second, .val (.int (1 : Int32)), .val (.int (1 : Int32)), .val (.long dw), .second, .val (.int (1 : Int32)), .val (.int (1 : Int32))] []))
  refine OGo.step (fun uK kK => XS.iload X24.here hx rfl (hb hby at_159) rfl kK) ?_
  show OGo p e below _ (T24.setTop (mkF m 161 #[.val (.int p0), .val (.int p1), .val (.int p2), .val (.ref b1), .val (.long (10000000 : Int64)), .second, .val (.long (1000000 : Int64)), .second, .val (.long s_), .second, .val (.int (1 : Int32)), .val (.int (1 : Int32)), .val (.long dw), .second, .val (.int (1 : Int32)), .val (.int (1 : Int32))] [(.int (1 : Int32))]))
  have hc161 : ¬ ((1 : Int32) = (0 : Int32)) := by decide
  refine OGo.step (fun uK kK => XS.ifNo X24.here hx rfl (hb hby at_161) rfl ((if0 _ _).trans (feq hc161).1) kK) ?_
  show OGo p e below _ (T24.setTop (mkF m 164 #[.val (.int p0), .val (.int p1), .val (.int p2), .val (.ref b1), .val (.long (10000000 : Int64)), .second, .val (.long (1000000 : Int64)), .second, .val (.long s_), .second, .val (.int (1 : Int32)), .val (.int (1 : Int32)), .val (.long dw), .second, .val (.int (1 : Int32)), .val (.int (1 : Int32))] []))
  refine OGo.step (fun uK kK => XS.iload X24.here hx rfl (hb hby at_164) rfl kK) ?_
  show OGo p e below _ (T24.setTop (mkF m 166 #[.val (.int p0), .val (.int p1), .val (.int p2), .val (.ref b1), .val (.long (10000000 : Int64)), .second, .val (.long (1000000 : Int64)), .second, .val (.long s_), .second, .val (.int (1 : Int32)), .val (.int (1 : Int32)), .val (.long dw), .second, .val (.int (1 : Int32)), .val (.int (1 : Int32))] [(.int (1 : Int32))]))
  have hc166 : ¬ ((1 : Int32) = (0 : Int32)) := by decide
  refine OGo.step (fun uK kK => XS.ifNo X24.here hx rfl (hb hby at_166) rfl ((if0 _ _).trans (feq hc166).1) kK) ?_
  show OGo p e below _ (T24.setTop (mkF m 169 #[.val (.int p0), .val (.int p1), .val (.int p2), .val (.ref b1), .val (.long (10000000 : Int64)), .second, .val (.long (1000000 : Int64)), .second, .val (.long s_), .second, .val (.int (1 : Int32)), .val (.int (1 : Int32)), .val (.long dw), .second, .val (.int (1 : Int32)), .val (.int (1 : Int32))] []))
  refine OGo.step (fun uK kK => XS.iconst X24.here hx rfl (hb hby at_169) kK) ?_
  show OGo p e below _ (T24.setTop (mkF m 170 #[.val (.int p0), .val (.int p1), .val (.int p2), .val (.ref b1), .val (.long (10000000 : Int64)), .second, .val (.long (1000000 : Int64)), .second, .val (.long s_), .second, .val (.int (1 : Int32)), .val (.int (1 : Int32)), .val (.long dw), .second, .val (.int (1 : Int32)), .val (.int (1 : Int32))] [(.int (1 : Int32))]))
  refine OGo.step (fun uK kK => XS.goto X24.here hx rfl (pc0 := 170) (pc' := 174) rfl (hb hby at_170) (by decide) (by decide) kK) ?_
  show OGo p e below _ (T24.setTop (mkF m 174 #[.val (.int p0), .val (.int p1), .val (.int p2), .val (.ref b1), .val (.long (10000000 : Int64)), .second, .val (.long (1000000 : Int64)), .second, .val (.long s_), .second, .val (.int (1 : Int32)), .val (.int (1 : Int32)), .val (.long dw), .second, .val (.int (1 : Int32)), .val (.int (1 : Int32))] [(.int (1 : Int32))]))
  exact OGo.retN X24 hx Bd.notSynchronized (t := .boolean) Bd.returns (by simp) (hb hby at_174) (by decide) (by decide) (by show Q0 Z p0 p1 p2 h0 n0 _ T24.heap _; rw [e24]; exact ⟨rfl, N24⟩)
set_option maxRecDepth 65536 in
set_option maxHeartbeats 40000000 in
theorem comes_1 {Post : Tables → Env → Array Value → State → Outcome → State → Prop} (hpost : ∀ tb e args s v u, (limb_1_1.after args s (.returned v) u = true ∧ limb_1_2.after args s (.returned v) u = true ∧ True) → FrameEnd s (.returned v) u (Jvm.fieldLocs frame_1_writes args s ++ Jvm.arrayLocs frame_1_arrays args s ++ Jvm.staticLocs frame_1_statics s) 16 128 → Post tb e args s (.returned v) u) :
    ArmFor flags0 classFile x code maxLocals ret World_1 tables_1 room_1 Calls_1 rest_1 Pre_1 Post := by
  intro l hfl _ _ p e ha hc hk s m args below hf hA hF happ hP
  obtain ⟨hcalls, hrest, hpre⟩ := hP
  obtain ⟨-, -, -, hnamed, -, -, -, hat⟩ := (Spec.applies_iff hf).mp happ
  obtain ⟨hg, hn⟩ := and_e (Cond.before_iff.mp (show (Jvm.Cond.and given_1 narrow_1).before args s = true from hpre))
  obtain ⟨hcount, hg0⟩ := and_e hg
  obtain ⟨ga0, hg1⟩ := and_e hg0
  obtain ⟨ga1, hg2⟩ := and_e hg1
  have ga2 := hg2
  obtain ⟨w0, w1, w2, rfl⟩ : ∃ w0 w1 w2 : Value, args = #[w0, w1, w2] := by
    have hs : args.size = 3 := by simpa [Cond.value, given_1] using hcount
    obtain ⟨L⟩ := args
    match L, hs with
    | [w0, w1, w2], _ => exact ⟨w0, w1, w2, rfl⟩
  have hw := fun d (hd : d ∈ tables_1) => atoms_spec (ws := Jvm.Cond.code x code maxLocals ret :: tables_1) hat d (List.mem_cons_of_mem _ hd)
  have hfit : Fit s := fun {y c} hc i hi => by
    obtain ⟨ha, rfl⟩ := Array.getElem?_eq_some_iff.mp hc
    have q := List.all_eq_true.mp ((Array.all_eq_true_iff_forall_mem.mp hF) _ (Array.getElem_mem ha)) i (List.mem_range.mpr hi)
    simpa [Array.getElem?_eq_getElem hi] using q
  obtain ⟨i0, ei0⟩ := is_v ga0
  obtain rfl : w0 = (.int i0) := Option.some.inj ei0
  obtain ⟨i1, ei1⟩ := is_v ga1
  obtain rfl : w1 = (.int i1) := Option.some.inj ei1
  obtain ⟨i2, ei2⟩ := is_v ga2
  obtain rfl : w2 = (.int i2) := Option.some.inj ei2
  obtain ⟨n, o, h1, h2, h3, _, L, rfl, ⟨rfl, N⟩, hq⟩ := rm0 l s _ hw tables_1 i0 i1 i2  s.heap s.heap.size (Nat.le_refl _)  p e ha hc hk s m _ below hf ((Spec.applies_iff_loose hf).mp happ).1 ⟨rfl, State.Warmed39.refl s, rfl⟩ trivial
  refine ⟨n, _, h1, h2, h3, hpost _ _ _ _ _ _ ⟨Cond.after_iff.mpr rfl, Cond.after_iff.mpr (eq_i res_at (Term.int_eval (1)) rfl), trivial⟩ ⟨hq.1, hq.2.1, (hq.2.2.sift fun y hy => Or.inr (N y hy)).mono (by decide) (by decide)⟩⟩
theorem main_1_1 : Claimed_1_1 := comes_1 fun _ _ _ _ _ _ h hF => ⟨h.1, hF⟩
theorem main_1_2 : Claimed_1_2 := comes_1 fun _ _ _ _ _ _ h hF => ⟨h.2.1, hF⟩
end Jvm.Pilot.@@N@@
namespace Jvm.Pilot.@@N@@
open Jvm Jvm.ClassFile Sem Op Lib Jvm.Free Jvm.Stand Jvm.Pilot.@@N@@.Jvm.D
/-! MADE BY PROGRAM (witnessworld.py) out of the Statement's table words and the real class files: 10 classes; the members and pool entries that the words name. The judged class is class 1, her method 1. -/
namespace start1
open Jvm.ClassFile
def u (s : String) : CpInfo := .utf8 (stringToUtf16 s)
/-- a pool by its gaps: so many unusable entries, then the entry; so many at the end -/
def gap : Nat → List CpInfo → List CpInfo
  | 0, r => r
  | n + 1, r => .unusable :: gap n r
def poolList (es : List (Nat × CpInfo)) (last : Nat) : List CpInfo := es.foldr (fun e r => gap e.1 (e.2 :: r)) (gap last [])
def pool (es : List (Nat × CpInfo)) (last : Nat) : Array CpInfo := ⟨poolList es last⟩
def fileOf (pool : Array CpInfo) (this : Nat) (attrs : Array Attribute := #[]) (ms : Array MethodInfo := #[]) (fl : Nat := 33) (sup : Nat := 0) (ifs : Array Nat := #[]) (fds : Array FieldInfo := #[]) : ClassFile where
  minorVersion := 0
  majorVersion := 65
  constantPool := pool
  accessFlags := fl
  thisClass := this
  superClass := sup
  interfaces := ifs
  fields := fds
  methods := ms
  attributes := attrs
def plain (name : String) (sup : Option ClassId) : Class where
  name := name
  kind := .ordinary
  loader := none
  accessFlags := 33
  super := sup
  interfaces := #[]
  cf := none
  fields := #[]
  methods := #[]
  instanceTypes := #[]
  staticTypes := #[]
  resolved := #[]
  callSites := []
  init := .initialized
  statics := none
  mirror := none

def pool0 : Array CpInfo := pool [(5, u "<init>"), (0, u "()V"), (1, .class_ 10), (1, u "java/lang/Object")] 113

def k0c0 : Code := { maxStack := 0, maxLocals := 1, code := object_method_1_code, exceptionTable := #[], attributes := #[] }
def k0m0 : Method := { name := "<init>", desc := "()V", sig := { parameters := [], returnType := none }, accessFlags := 1, code := some k0c0 }
/-- java/lang/Object -/
def k0 : Class := { plain "java/lang/Object" none with
  accessFlags := 33
  interfaces := #[]
  cf := some (fileOf pool0 8 #[] #[{ accessFlags := 1, nameIndex := 5, descriptorIndex := 6, attributes := #[] }] 33 0 #[] #[])
  fields := #[]
  methods := #[k0m0]
  instanceTypes := #[]
  staticTypes := #[]
  resolved := Array.replicate 124 none
  statics := none }

def pool1 : Array CpInfo := pool [(2, .class_ 4), (0, .nameAndType 5 6), (0, u "java/lang/Object"), (0, u "<init>"), (0, u "()V"), (0, .class_ 8), (0, u "com/example/amphisbaena/amphisbaena/format/CheckBudget"), (0, .methodref 7 3), (0, .long 10000000), (1, .long 1000000), (1, .methodref 7 15), (0, .nameAndType 16 17), (0, u "take"), (0, u "(I)V"), (0, .methodref 7 19), (0, .nameAndType 20 21), (0, u "limit"), (0, u "()J"), (0, .methodref 7 23), (0, .nameAndType 24 25), (0, u "spent"), (0, u "()Z"), (0, .methodref 27 28), (0, .class_ 29), (0, .nameAndType 30 31), (0, u "java/lang/Math"), (0, u "max"), (0, u "(JJ)J"), (0, .methodref 7 33), (0, .nameAndType 34 6), (0, u "startComparison"), (0, .class_ 36), (0, u "com/example/amphisbaena/amphisbaena/format/CheckBudgetTakePinLaw"), (2, u "law"), (0, u "(III)Z")] 3

def k1m0 : Method := { name := "<init>", desc := "()V", sig := { parameters := [], returnType := none }, accessFlags := 1, code := none }
def k1c1 : Code := { maxStack := 7, maxLocals := 16, code := code, exceptionTable := #[], attributes := #[] }
def k1m1 : Method := { name := "law", desc := "(III)Z", sig := { parameters := [.int, .int, .int], returnType := some .boolean }, accessFlags := 9, code := some k1c1 }
/-- com/example/amphisbaena/amphisbaena/format/CheckBudgetTakePinLaw -/
def k1 : Class := { plain "com/example/amphisbaena/amphisbaena/format/CheckBudgetTakePinLaw" (some 0) with
  accessFlags := 49
  interfaces := #[]
  cf := some (fileOf pool1 35 #[] #[{ accessFlags := 1, nameIndex := 5, descriptorIndex := 6, attributes := #[] }, { accessFlags := 9, nameIndex := 39, descriptorIndex := 40, attributes := #[] }] 49 2 #[] #[])
  fields := #[]
  methods := #[k1m0, k1m1]
  instanceTypes := #[]
  staticTypes := #[]
  resolved := Array.replicate 44 none
  statics := none }

def pool2 : Array CpInfo := pool [(1, .methodref 2 3), (0, .class_ 4), (0, .nameAndType 5 6), (0, u "java/lang/Object"), (0, u "<init>"), (0, u "()V"), (0, .fieldref 8 9), (0, .class_ 10), (0, .nameAndType 11 12), (0, u "com/example/amphisbaena/amphisbaena/format/CheckBudget"), (0, u "drawn"), (0, u "J"), (0, .fieldref 8 14), (0, .nameAndType 15 12), (0, u "steps"), (0, .long 1000000), (1, .methodref 19 20), (0, .class_ 21), (0, .nameAndType 22 23), (0, u "java/lang/Math"), (0, u "max"), (0, u "(JJ)J"), (0, .long 10000000), (1, .methodref 8 27), (0, .nameAndType 28 29), (0, u "limit"), (0, u "()J"), (0, u "MAX_STEPS"), (0, u "I"), (2, u "OWN_STEPS"), (3, u "startComparison"), (0, u "take"), (0, u "(I)V"), (0, u "spent"), (0, u "()Z")] 3

def k2c0 : Code := { maxStack := 1, maxLocals := 1, code := prog_8_method_1_code, exceptionTable := #[], attributes := #[] }
def k2m0 : Method := { name := "<init>", desc := "()V", sig := { parameters := [], returnType := none }, accessFlags := 1, code := some k2c0 }
def k2c1 : Code := { maxStack := 9, maxLocals := 1, code := prog_8_method_2_code, exceptionTable := #[], attributes := #[] }
def k2m1 : Method := { name := "startComparison", desc := "()V", sig := { parameters := [], returnType := none }, accessFlags := 1, code := some k2c1 }
def k2c2 : Code := { maxStack := 5, maxLocals := 2, code := prog_8_method_3_code, exceptionTable := #[], attributes := #[] }
def k2m2 : Method := { name := "take", desc := "(I)V", sig := { parameters := [.int], returnType := none }, accessFlags := 1, code := some k2c2 }
def k2c3 : Code := { maxStack := 4, maxLocals := 1, code := prog_8_method_4_code, exceptionTable := #[], attributes := #[] }
def k2m3 : Method := { name := "limit", desc := "()J", sig := { parameters := [], returnType := some .long }, accessFlags := 1, code := some k2c3 }
def k2c4 : Code := { maxStack := 4, maxLocals := 1, code := prog_8_method_5_code, exceptionTable := #[], attributes := #[] }
def k2m4 : Method := { name := "spent", desc := "()Z", sig := { parameters := [], returnType := some .boolean }, accessFlags := 1, code := some k2c4 }
/-- com/example/amphisbaena/amphisbaena/format/CheckBudget -/
def k2 : Class := { plain "com/example/amphisbaena/amphisbaena/format/CheckBudget" (some 0) with
  accessFlags := 49
  interfaces := #[]
  cf := some (fileOf pool2 8 #[] #[{ accessFlags := 1, nameIndex := 5, descriptorIndex := 6, attributes := #[] }, { accessFlags := 1, nameIndex := 38, descriptorIndex := 6, attributes := #[] }, { accessFlags := 1, nameIndex := 39, descriptorIndex := 40, attributes := #[] }, { accessFlags := 1, nameIndex := 28, descriptorIndex := 29, attributes := #[] }, { accessFlags := 1, nameIndex := 41, descriptorIndex := 42, attributes := #[] }] 49 2 #[] #[{ accessFlags := 25, nameIndex := 30, descriptorIndex := 31, attributes := #[] }, { accessFlags := 24, nameIndex := 34, descriptorIndex := 31, attributes := #[] }, { accessFlags := 2, nameIndex := 11, descriptorIndex := 12, attributes := #[] }, { accessFlags := 2, nameIndex := 15, descriptorIndex := 12, attributes := #[] }])
  fields := #[{ name := "MAX_STEPS", type := .int, accessFlags := 25, slot := 0, constantValue := 0 }, { name := "OWN_STEPS", type := .int, accessFlags := 24, slot := 1, constantValue := 0 }, { name := "drawn", type := .long, accessFlags := 2, slot := 0, constantValue := 0 }, { name := "steps", type := .long, accessFlags := 2, slot := 1, constantValue := 0 }]
  methods := #[k2m0, k2m1, k2m2, k2m3, k2m4]
  instanceTypes := #[.long, .long]
  staticTypes := #[.int, .int]
  resolved := Array.replicate 46 none
  statics := none }

def pool3 : Array CpInfo := pool [(1, .class_ 2), (0, u "java/lang/Math"), (1, .class_ 6), (1, u "java/lang/Object"), (0, u "<init>"), (0, u "()V"), (89, .class_ 100), (1, u "java/lang/Math$RandomNumberGeneratorHolder"), (20, u "(JJ)J"), (50, u "negativeZeroFloatBits"), (0, u "J"), (2, u "negativeZeroDoubleBits"), (21, u "max"), (46, u "$assertionsDisabled"), (0, u "Z"), (91, u "twoToTheDoubleScaleDown"), (0, u "D"), (4, u "twoToTheDoubleScaleUp"), (9, u "E"), (3, u "PI"), (2, u "TAU"), (2, u "DEGREES_TO_RADIANS"), (0, u "RADIANS_TO_DEGREES")] 94

def k3m0 : Method := { name := "<init>", desc := "()V", sig := { parameters := [], returnType := none }, accessFlags := 2, code := none }
def k3c1 : Code := { maxStack := 4, maxLocals := 4, code := jdk_29_method_66_code, exceptionTable := #[], attributes := #[] }
def k3m1 : Method := { name := "max", desc := "(JJ)J", sig := { parameters := [.long, .long], returnType := some .long }, accessFlags := 9, code := some k3c1 }
/-- java/lang/Math -/
def k3 : Class := { plain "java/lang/Math" (some 0) with
  accessFlags := 49
  interfaces := #[]
  cf := some (fileOf pool3 1 #[.nestMembers #[98]] #[{ accessFlags := 2, nameIndex := 7, descriptorIndex := 8, attributes := #[] }, { accessFlags := 9, nameIndex := 198, descriptorIndex := 121, attributes := #[] }] 49 4 #[] #[{ accessFlags := 25, nameIndex := 354, descriptorIndex := 339, attributes := #[] }, { accessFlags := 25, nameIndex := 358, descriptorIndex := 339, attributes := #[] }, { accessFlags := 25, nameIndex := 361, descriptorIndex := 339, attributes := #[] }, { accessFlags := 26, nameIndex := 364, descriptorIndex := 339, attributes := #[] }, { accessFlags := 26, nameIndex := 365, descriptorIndex := 339, attributes := #[] }, { accessFlags := 26, nameIndex := 172, descriptorIndex := 173, attributes := #[] }, { accessFlags := 26, nameIndex := 176, descriptorIndex := 173, attributes := #[] }, { accessFlags := 8, nameIndex := 344, descriptorIndex := 339, attributes := #[] }, { accessFlags := 8, nameIndex := 338, descriptorIndex := 339, attributes := #[] }, { accessFlags := 4120, nameIndex := 245, descriptorIndex := 246, attributes := #[] }])
  fields := #[{ name := "E", type := .double, accessFlags := 25, slot := 0, constantValue := 0 }, { name := "PI", type := .double, accessFlags := 25, slot := 1, constantValue := 0 }, { name := "TAU", type := .double, accessFlags := 25, slot := 2, constantValue := 0 }, { name := "DEGREES_TO_RADIANS", type := .double, accessFlags := 26, slot := 3, constantValue := 0 }, { name := "RADIANS_TO_DEGREES", type := .double, accessFlags := 26, slot := 4, constantValue := 0 }, { name := "negativeZeroFloatBits", type := .long, accessFlags := 26, slot := 5, constantValue := 0 }, { name := "negativeZeroDoubleBits", type := .long, accessFlags := 26, slot := 6, constantValue := 0 }, { name := "twoToTheDoubleScaleUp", type := .double, accessFlags := 8, slot := 7, constantValue := 0 }, { name := "twoToTheDoubleScaleDown", type := .double, accessFlags := 8, slot := 8, constantValue := 0 }, { name := "$assertionsDisabled", type := .boolean, accessFlags := 4120, slot := 9, constantValue := 0 }]
  methods := #[k3m0, k3m1]
  instanceTypes := #[]
  staticTypes := #[.double, .double, .double, .double, .double, .long, .long, .double, .double, .boolean]
  resolved := Array.replicate 460 none
  statics := none }

def pool4 : Array CpInfo := pool [(1, u "java/lang/Cloneable"), (0, .class_ 1), (0, u "java/lang/Object"), (0, .class_ 3)] 3

/-- java/lang/Cloneable -/
def k4 : Class := { plain "java/lang/Cloneable" (some 0) with
  accessFlags := 1537
  interfaces := #[]
  cf := some (fileOf pool4 2 #[] #[] 1537 4 #[] #[])
  fields := #[]
  methods := #[]
  instanceTypes := #[]
  staticTypes := #[]
  resolved := Array.replicate 8 none
  statics := none }

def pool5 : Array CpInfo := pool [(1, u "java/io/Serializable"), (0, .class_ 1), (0, u "java/lang/Object"), (0, .class_ 3)] 3

/-- java/io/Serializable -/
def k5 : Class := { plain "java/io/Serializable" (some 0) with
  accessFlags := 1537
  interfaces := #[]
  cf := some (fileOf pool5 2 #[] #[] 1537 4 #[] #[])
  fields := #[]
  methods := #[]
  instanceTypes := #[]
  staticTypes := #[]
  resolved := Array.replicate 8 none
  statics := none }

/-- the primitive byte -/
def k6 : Class := { plain "byte" none with kind := .primitive 'B', accessFlags := 0x411 }
/-- [B -/
def k7 : Class := { plain "[B" (some 0) with kind := .array 6 .byte, interfaces := #[4, 5], accessFlags := 1041 }

/-- the primitive int -/
def k8 : Class := { plain "int" none with kind := .primitive 'I', accessFlags := 0x411 }
/-- [I -/
def k9 : Class := { plain "[I" (some 0) with kind := .array 8 .int, interfaces := #[4, 5], accessFlags := 1041 }

def heap : Heap := #[]
def classes : Array Class := #[k0, k1, k2, k3, k4, k5, k6, k7, k8, k9]
def interned : List (Array UInt16 × Addr) := []
def slotsUsed : Nat := 0
def theMethod : MethodId := ⟨1, 1⟩
def args0 : Array Value := #[.int 5, .int 6, .int 7]
def aboutOver (below : List Frame) : State where
  vm := { classes := classes, interned := interned.toArray }
  heap := heap
  slotsUsed := slotsUsed
  threads := #[{ frames := .invoking theMethod args0 :: below }]
def below0 : List Frame := [.native { method := ⟨0, 0⟩, args := #[] }]
def about1 : State := aboutOver below0
def p0 : Program := .bare "" "" ""
def e0 : Env := launch0.env 0 0 0
theorem w_frames : about1.frames = Frame.invoking theMethod args0 :: below0 := rfl
set_option maxRecDepth 65536 in
theorem w_args : argsFit about1.vm theMethod args0 = true := by decide +kernel
set_option maxRecDepth 65536 in
theorem w_heap : heapFits about1 = true := by decide +kernel
set_option maxRecDepth 65536 in
theorem w_runnable : about1.curStatus? = some .runnable := by decide +kernel
set_option maxRecDepth 65536 in
theorem w_alone : about1.alone = true := by decide +kernel
set_option maxRecDepth 65536 in
theorem w_named : about1.methodNamed? x = some theMethod := by decide +kernel
set_option maxRecDepth 65536 in
theorem w_hears : about1.hears theMethod below0 = true := by decide +kernel
set_option maxRecDepth 65536 in
theorem w_ripe : about1.ripe theMethod args0 below0 = true := by decide +kernel
theorem w_running : about1.status = .running := rfl
set_option maxRecDepth 65536 in
theorem w_room : about1.hasRoom e0.platform room_1 = true :=
  launch0.hasRoom_least _ room_1 (by decide +kernel) (by decide +kernel) (by decide +kernel) (by decide +kernel) (by decide +kernel) (by decide +kernel)
theorem allAtoms_all (ts : List Jvm.Cond) (a : Array Jvm.Value) (st : Jvm.State) : (allAtoms ts).before a st = ts.all (fun c => c.before a st) := by
  induction ts with
  | nil => rfl
  | cons c t ih =>
    show (Jvm.Cond.and c (allAtoms t)).before a st = _
    rw [Jvm.Cond.before_and, ih, List.all_cons]
def words1 : List Jvm.Cond := Jvm.Cond.code x code maxLocals ret :: tables_1
/-- a 'code' word, met by the world's own term for the bytes: nothing is compared byte by byte -/
theorem code_word {y : MethodName} {bytes : ByteArray} {mx : Nat} {rt : Option FieldType} {a : Array Value} {s : State} {m : MethodId} {meth : Method} {c : Code} (h1 : s.methodNamed? y = some m) (h2 : s.vm.method? m = some meth) (h3 : meth.code = some c) (h4 : c.code = bytes)
    (h5 : (c.maxLocals == mx && c.exceptionTable.isEmpty && decide (c.maxStack ≤ mostOperands) && decide (meth.sig.returnType = rt) && !meth.locks && decide (parseMethodDescriptor y.desc = some meth.sig)) = true) : (Jvm.Cond.code y bytes mx rt).before a s = true := by
  simp only [Bool.and_eq_true, beq_iff_eq, Bool.not_eq_true', decide_eq_true_eq] at h5
  obtain ⟨⟨⟨⟨⟨g1, g2⟩, g3⟩, g4⟩, g5⟩, g6⟩ := h5
  simp [Cond.before, Cond.holds, Cond.value, h1, h2, h3, h4, g1, g2, g3, g4, g5, g6]
def isCode : Jvm.Cond → Bool
  | .code _ _ _ _ => true
  | _ => false
theorem all_split {L : List Jvm.Cond} {P : Jvm.Cond → Bool} (h1 : L.all (fun c => isCode c || P c) = true) (h2 : ∀ c ∈ L.filter isCode, P c = true) : L.all P = true := by
  refine List.all_eq_true.mpr fun c hc => ?_
  have h := List.all_eq_true.mp h1 c hc
  rcases Bool.eq_false_or_eq_true (isCode c) with hi | hi
  · exact h2 c (List.mem_filter.mpr ⟨hc, hi⟩)
  · simpa [hi] using h
set_option maxRecDepth 65536 in
theorem w_c0 : (Jvm.Cond.code x code maxLocals ret).before args0 about1 = true := code_word (m := ⟨1, 1⟩) (meth := k1m1) (c := k1c1) (by decide +kernel) rfl rfl rfl (by decide +kernel)
set_option maxRecDepth 65536 in
theorem w_c1 : (Jvm.Cond.code ({ cls := "com/example/amphisbaena/amphisbaena/format/CheckBudget", name := "<init>", desc := "()V" } : Jvm.MethodName) prog_8_method_1_code (1 : Nat) (Option.none : Option Jvm.ClassFile.FieldType)).before args0 about1 = true := code_word (m := ⟨2, 0⟩) (meth := k2m0) (c := k2c0) (by decide +kernel) rfl rfl rfl (by decide +kernel)
set_option maxRecDepth 65536 in
theorem w_c2 : (Jvm.Cond.code ({ cls := "java/lang/Object", name := "<init>", desc := "()V" } : Jvm.MethodName) object_method_1_code (1 : Nat) (Option.none : Option Jvm.ClassFile.FieldType)).before args0 about1 = true := code_word (m := ⟨0, 0⟩) (meth := k0m0) (c := k0c0) (by decide +kernel) rfl rfl rfl (by decide +kernel)
set_option maxRecDepth 65536 in
theorem w_c3 : (Jvm.Cond.code ({ cls := "com/example/amphisbaena/amphisbaena/format/CheckBudget", name := "take", desc := "(I)V" } : Jvm.MethodName) prog_8_method_3_code (2 : Nat) (Option.none : Option Jvm.ClassFile.FieldType)).before args0 about1 = true := code_word (m := ⟨2, 2⟩) (meth := k2m2) (c := k2c2) (by decide +kernel) rfl rfl rfl (by decide +kernel)
set_option maxRecDepth 65536 in
theorem w_c4 : (Jvm.Cond.code ({ cls := "com/example/amphisbaena/amphisbaena/format/CheckBudget", name := "limit", desc := "()J" } : Jvm.MethodName) prog_8_method_4_code (1 : Nat) (Option.some Jvm.ClassFile.FieldType.long)).before args0 about1 = true := code_word (m := ⟨2, 3⟩) (meth := k2m3) (c := k2c3) (by decide +kernel) rfl rfl rfl (by decide +kernel)
set_option maxRecDepth 65536 in
theorem w_c5 : (Jvm.Cond.code ({ cls := "com/example/amphisbaena/amphisbaena/format/CheckBudget", name := "spent", desc := "()Z" } : Jvm.MethodName) prog_8_method_5_code (1 : Nat) (Option.some Jvm.ClassFile.FieldType.boolean)).before args0 about1 = true := code_word (m := ⟨2, 4⟩) (meth := k2m4) (c := k2c4) (by decide +kernel) rfl rfl rfl (by decide +kernel)
set_option maxRecDepth 65536 in
theorem w_c6 : (Jvm.Cond.code ({ cls := "java/lang/Math", name := "max", desc := "(JJ)J" } : Jvm.MethodName) jdk_29_method_66_code (4 : Nat) (Option.some Jvm.ClassFile.FieldType.long)).before args0 about1 = true := code_word (m := ⟨3, 1⟩) (meth := k3m1) (c := k3c1) (by decide +kernel) rfl rfl rfl (by decide +kernel)
set_option maxRecDepth 65536 in
theorem w_c7 : (Jvm.Cond.code ({ cls := "com/example/amphisbaena/amphisbaena/format/CheckBudget", name := "startComparison", desc := "()V" } : Jvm.MethodName) prog_8_method_2_code (1 : Nat) (Option.none : Option Jvm.ClassFile.FieldType)).before args0 about1 = true := code_word (m := ⟨2, 1⟩) (meth := k2m1) (c := k2c1) (by decide +kernel) rfl rfl rfl (by decide +kernel)
def codes1 : List Jvm.Cond := [Jvm.Cond.code x code maxLocals ret, Jvm.Cond.code ({ cls := "com/example/amphisbaena/amphisbaena/format/CheckBudget", name := "<init>", desc := "()V" } : Jvm.MethodName) prog_8_method_1_code (1 : Nat) (Option.none : Option Jvm.ClassFile.FieldType), Jvm.Cond.code ({ cls := "java/lang/Object", name := "<init>", desc := "()V" } : Jvm.MethodName) object_method_1_code (1 : Nat) (Option.none : Option Jvm.ClassFile.FieldType), Jvm.Cond.code ({ cls := "com/example/amphisbaena/amphisbaena/format/CheckBudget", name := "take", desc := "(I)V" } : Jvm.MethodName) prog_8_method_3_code (2 : Nat) (Option.none : Option Jvm.ClassFile.FieldType), Jvm.Cond.code ({ cls := "com/example/amphisbaena/amphisbaena/format/CheckBudget", name := "limit", desc := "()J" } : Jvm.MethodName) prog_8_method_4_code (1 : Nat) (Option.some Jvm.ClassFile.FieldType.long), Jvm.Cond.code ({ cls := "com/example/amphisbaena/amphisbaena/format/CheckBudget", name := "spent", desc := "()Z" } : Jvm.MethodName) prog_8_method_5_code (1 : Nat) (Option.some Jvm.ClassFile.FieldType.boolean), Jvm.Cond.code ({ cls := "java/lang/Math", name := "max", desc := "(JJ)J" } : Jvm.MethodName) jdk_29_method_66_code (4 : Nat) (Option.some Jvm.ClassFile.FieldType.long), Jvm.Cond.code ({ cls := "com/example/amphisbaena/amphisbaena/format/CheckBudget", name := "startComparison", desc := "()V" } : Jvm.MethodName) prog_8_method_2_code (1 : Nat) (Option.none : Option Jvm.ClassFile.FieldType)]
set_option maxRecDepth 65536 in
theorem codes_eq : words1.filter isCode = codes1 := rfl
theorem w_codes : ∀ c ∈ words1.filter isCode, c.before args0 about1 = true := by
  rw [codes_eq]
  intro c hc
  simp only [codes1, List.mem_cons, List.not_mem_nil, or_false] at hc
  rcases hc with rfl | rfl | rfl | rfl | rfl | rfl | rfl | rfl
  · exact w_c0
  · exact w_c1
  · exact w_c2
  · exact w_c3
  · exact w_c4
  · exact w_c5
  · exact w_c6
  · exact w_c7
set_option maxRecDepth 65536 in
theorem w_t1 : (words1.take 24).all (fun c => isCode c || c.before args0 about1) = true := by decide +kernel
set_option maxRecDepth 65536 in
theorem w_t2 : (words1.drop 24).all (fun c => isCode c || c.before args0 about1) = true := by decide +kernel
theorem w_tables : (allAtoms (Jvm.Cond.code x code maxLocals ret :: tables_1)).before args0 about1 = true := by
  rw [allAtoms_all]
  show words1.all (fun c => c.before args0 about1) = true
  refine all_split ?_ w_codes
  rw [← List.take_append_drop 24 words1, List.all_append, w_t1, w_t2]
  rfl
set_option maxRecDepth 65536 in
theorem w_case : (Jvm.Cond.and given_1 narrow_1).before args0 about1 = true := by decide +kernel
theorem w_applies : (headSpec (Jvm.Cond.code x code maxLocals ret :: tables_1) room_1).applies x e0.platform about1 = true :=
  (Spec.applies_iff w_frames).mpr ⟨w_running, w_runnable, w_alone, w_named, w_hears, w_ripe, w_room, w_tables⟩
theorem atStart : AtStart classFile x code maxLocals ret World_1 tables_1 room_1 Calls_1 rest_1 Pre_1 launch0 p0 e0 about1 theMethod args0 below0 :=
  ⟨lists_1, trivial, launch0.admits_env _ _ _, launch0.least_env, fairChoices_fair.cas, fairChoices_fair.clock, w_frames, w_args, w_heap, w_applies, trivial, trivial, w_case⟩
end start1
theorem witness_1 : WitnessClaimed_1 := ⟨start1.p0, start1.e0, start1.about1, start1.theMethod, start1.args0, start1.below0, start1.atStart⟩
end Jvm.Pilot.@@N@@
