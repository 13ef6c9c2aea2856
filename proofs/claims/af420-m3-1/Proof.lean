import JvmDerived
import JvmDerived.Pilot.@@N@@Statement
import JvmDerived.Pilot.@@N@@Code
set_option linter.unusedVariables false
set_option linter.unusedSimpArgs false
namespace Jvm.RoadKit
open Sem ClassFile Op Lib Jvm.Stand Jvm.Free Jvm.LawKit
section OwnFlow
variable {p : Program} {l : Launch} {e : Env} {R : Room} {s : State} {m : MethodId} {args : Array Value} {below : List Frame} {meth : Method} {c : Code} {T : State} {locs : List Loc} {cells slots : Nat} {P : State → Outcome → Prop} {Q : Option Value → Heap → List Loc → Prop} {C S : Nat}
/-- from t the run comes to an end at which P holds -/
def OGo (p : Program) (e : Env) (below : List Frame) (P : State → Outcome → Prop) (t : State) : Prop := ∃ s₂ o, Steps p.tables e below t s₂ ∧ s₂.status = .running ∧ Ended s₂ below o ∧ P s₂ o
/-- it returned; Q of the value, the heap and the places written; the frame -/
def OPost (s : State) (Q : Option Value → Heap → List Loc → Prop) (C S : Nat) (s₂ : State) (o : Outcome) : Prop := ∃ v L, o = .returned v ∧ Q v s₂.heap L ∧ FrameEnd s o s₂ L C S
theorem OGo.step {t t' : State} (h : ∀ u, Steps p.tables e below t' u → Steps p.tables e below t u) (g : OGo p e below P t') : OGo p e below P t := by
  obtain ⟨s2, o, h1, h2⟩ := g
  exact ⟨s2, o, h _ h1, h2⟩
theorem OGo.steps {t t' : State} (h : Steps p.tables e below t t') (g : OGo p e below P t') : OGo p e below P t := OGo.step (fun _ k => h.trans k) g
theorem OGo.retI (X : Stand p l e R s m args below meth c T locs cells slots) (hx : p.tables.exec = Jvm.exec) (hk : meth.locks = false) {pc : Nat} {Ls : Array Slot} {z : Int32} {rest : List Value} (hret : meth.sig.returnType = some .int) (hd : decode c.code pc = .ok (.ireturn, 1))
    (hc : cells ≤ C) (hs : slots ≤ S) (q : Q (some (.int z)) T.heap locs) : OGo p e below (OPost s Q C S) (T.setTop (mkF m pc Ls (.int z :: rest))) := by
  obtain ⟨fs, hr, hrun, hended, hW, hsame⟩ := X.leave (v := some (.int z)) (fun h => by rw [hret] at h; cases h) hk
  exact ⟨_, _, retOut X hx hret rfl (Or.inl ⟨rfl, Or.inl rfl, _, rfl⟩) hd hr, hrun, hended, _, _, rfl, q, ⟨_, rfl⟩, hW, hsame.mono hc hs⟩
theorem OGo.retN (X : Stand p l e R s m args below meth c T locs cells slots) (hx : p.tables.exec = Jvm.exec) (hk : meth.locks = false) {pc : Nat} {Ls : Array Slot} {z : Int32} {t : FieldType} {rest : List Value} (hret : meth.sig.returnType = some t) (ht : t = .boolean ∨ t = .byte ∨ t = .char ∨ t = .short) (hd : decode c.code pc = .ok (.ireturn, 1))
    (hc : cells ≤ C) (hs : slots ≤ S) (q : Q (some (.int (nar t z))) T.heap locs) : OGo p e below (OPost s Q C S) (T.setTop (mkF m pc Ls (.int z :: rest))) := by
  obtain ⟨fs, hr, hrun, hended, hW, hsame⟩ := X.leave (v := some (.int (nar t z))) (fun h => by rw [hret] at h; cases h) hk
  exact ⟨_, _, Jvm.RoadKit.retN X hx hret ht hd hr, hrun, hended, _, _, rfl, q, ⟨_, rfl⟩, hW, hsame.mono hc hs⟩
theorem OGo.retJ (X : Stand p l e R s m args below meth c T locs cells slots) (hx : p.tables.exec = Jvm.exec) (hk : meth.locks = false) {pc : Nat} {Ls : Array Slot} {z : Int64} {rest : List Value} (hret : meth.sig.returnType = some .long) (hd : decode c.code pc = .ok (.lreturn, 1))
    (hc : cells ≤ C) (hs : slots ≤ S) (q : Q (some (.long z)) T.heap locs) : OGo p e below (OPost s Q C S) (T.setTop (mkF m pc Ls (.long z :: rest))) := by
  obtain ⟨fs, hr, hrun, hended, hW, hsame⟩ := X.leave (v := some (.long z)) (fun h => by rw [hret] at h; cases h) hk
  exact ⟨_, _, retOut X hx hret rfl (Or.inr (Or.inl ⟨rfl, rfl, _, rfl⟩)) hd hr, hrun, hended, _, _, rfl, q, ⟨_, rfl⟩, hW, hsame.mono hc hs⟩
theorem OGo.retR (X : Stand p l e R s m args below meth c T locs cells slots) (hx : p.tables.exec = Jvm.exec) (hk : meth.locks = false) {pc : Nat} {Ls : Array Slot} {w : Value} {t : FieldType} {rest : List Value} (hret : meth.sig.returnType = some t) (ht : t.isReference = true) (hw : w.isRef = true) (hd : decode c.code pc = .ok (.areturn, 1))
    (hc : cells ≤ C) (hs : slots ≤ S) (q : Q (some w) T.heap locs) : OGo p e below (OPost s Q C S) (T.setTop (mkF m pc Ls (w :: rest))) := by
  obtain ⟨fs, hr, hrun, hended, hW, hsame⟩ := X.leave (v := some w) (fun h => by rw [hret] at h; cases h) hk
  have hn : narrow t w = w := by rcases ref_cases hw with rfl | ⟨a, rfl⟩ <;> cases t <;> first | rfl | (simp [FieldType.isReference] at ht)
  exact ⟨_, _, retOut X hx hret hn (Or.inr (Or.inr (Or.inr (Or.inr ⟨rfl, ht, hw⟩)))) hd hr, hrun, hended, _, _, rfl, q, ⟨_, rfl⟩, hW, hsame.mono hc hs⟩
theorem OGo.retV (X : Stand p l e R s m args below meth c T locs cells slots) (hx : p.tables.exec = Jvm.exec) (hk : meth.locks = false) {pc : Nat} {Ls : Array Slot} (hret : meth.sig.returnType = none) (hd : decode c.code pc = .ok (.return_, 1))
    (hc : cells ≤ C) (hs : slots ≤ S) (q : Q none T.heap locs) : OGo p e below (OPost s Q C S) (T.setTop (mkF m pc Ls [])) := by
  obtain ⟨fs, hr, hrun, hended, hW, hsame⟩ := X.leave (v := none) (fun _ => rfl) hk
  exact ⟨_, _, X.returnOut hx hret hd hr, hrun, hended, _, _, rfl, q, ⟨_, rfl⟩, hW, hsame.mono hc hs⟩
end OwnFlow
end Jvm.RoadKit
namespace Jvm.Pilot.@@N@@
open Jvm Jvm.ClassFile Sem Op Lib Jvm.Free Jvm.Stand Jvm.LawKit Jvm.RoadKit Bundle Jvm.Pilot.@@N@@.Jvm.D
theorem own_c255 (x c : Int32) (h : c = nar .char (((x.toUInt32 >>> ((4 : Int32) &&& 31).toUInt32).toInt32 &&& (255 : Int32)).toUInt32.toUInt16.toUInt32.toInt32)) : ¬ ((255 : Int32) < c) := by
  have a := c_mask ((x.toUInt32 >>> ((4 : Int32) &&& 31).toUInt32).toInt32) 255 8 (by decide) (by decide)
  have b := c_i2c ((x.toUInt32 >>> ((4 : Int32) &&& 31).toUInt32).toInt32 &&& (255 : Int32))
  have d := c_i2c (((x.toUInt32 >>> ((4 : Int32) &&& 31).toUInt32).toInt32 &&& (255 : Int32)).toUInt32.toUInt16.toUInt32.toInt32)
  have e : (255 : Int32).toInt = 255 := by decide
  have h' : c = (((x.toUInt32 >>> ((4 : Int32) &&& 31).toUInt32).toInt32 &&& (255 : Int32)).toUInt32.toUInt16.toUInt32.toInt32).toUInt32.toUInt16.toUInt32.toInt32 := h
  rw [← h'] at d
  rw [Int32.lt_iff_toInt_lt]
  omega
theorem own_n4 (z n : Int32) (h : n = (z &&& (3 : Int32))) : n = (0 : Int32) ∨ n = (1 : Int32) ∨ n = (2 : Int32) ∨ n = (3 : Int32) := by
  have a := c_mask z 3 2 (by decide) (by decide)
  rw [← h] at a
  have e : ∀ k : Int32, n.toInt = k.toInt → n = k := fun k q => Int32.toInt_inj.mp q
  have e0 : (0 : Int32).toInt = 0 := by decide
  have e1 : (1 : Int32).toInt = 1 := by decide
  have e2 : (2 : Int32).toInt = 2 := by decide
  have e3 : (3 : Int32).toInt = 3 := by decide
  have : n.toInt = 0 ∨ n.toInt = 1 ∨ n.toInt = 2 ∨ n.toInt = 3 := by omega
  rcases this with q | q | q | q
  · exact Or.inl (e _ (by rw [q, e0]))
  · exact Or.inr (Or.inl (e _ (by rw [q, e1])))
  · exact Or.inr (Or.inr (Or.inl (e _ (by rw [q, e2]))))
  · exact Or.inr (Or.inr (Or.inr (e _ (by rw [q, e3]))))
theorem own_pos (z q : Int64) (h : q = (z &&& (9223372036854775807 : Int64))) : ¬ (q = (-1 : Int64)) := fun k => by
  have a := c_maskL z 9223372036854775807 63 (by decide) (by decide)
  rw [← h, k] at a
  have e : (-1 : Int64).toInt = -1 := by decide
  rw [e] at a
  omega
theorem own_not0 {t : Term} {args : Array Value} {s : State} {c : Int32} (ev : t.eval args s none [] s = some (.int c)) (q : c = (0 : Int32)) (h : (Cond.not (Cond.eq t (Term.int (0 : Int32)))).value args s none s [] = some true) : False := by
  subst q
  have e : (Cond.eq t (Term.int (0 : Int32))).value args s none s [] = some true := eq_i ev (Term.int_eval 0) rfl
  have h2 := not_v h
  rw [e] at h2
  exact absurd h2 (by decide)
theorem d14_0 : decode jdk_22_method_1_code 0 = .ok (.aload_n 0, 1) := by decide +kernel
theorem d14_1 : decode jdk_22_method_1_code 1 = .ok (.invokespecial 1, 3) := by decide +kernel
theorem d14_4 : decode jdk_22_method_1_code 4 = .ok (.return_, 1) := by decide +kernel
theorem pnac : plainName "java/util/AbstractCollection" = true := by first | (simp [plainName, overriddenIn]; done) | decide +kernel
theorem efac (m : MethodId) (x0 : Addr) : entryFrame m #[(.ref x0)] 1 = mkF m 0 #[.val (.ref x0)] [] := by first | (simp [entryFrame, mkF, argsToLocals, Value.category]; done) | rfl
def Qac (Z : State) (a : Addr) (h0 : Heap) (n0 : Nat) (v : Option Value) (h : Heap) (L : List Loc) : Prop := v = none ∧ Fr n0 L ∧ h = h0
set_option maxRecDepth 65536 in
set_option maxHeartbeats 40000000 in
theorem rmac (l : Launch) (Z : State) (a0 : Array Value) (hw : ∀ d ∈ tables_1, d.before a0 Z = true) (ws : List Jvm.Cond) (a : Addr) (h0 : Heap) (n0 : Nat) (Z0 : n0 ≤ h0.size) :
    MetFree l (⟨"java/util/AbstractCollection", "<init>", "()V"⟩ : MethodName) (head1 (Jvm.Cond.code (⟨"java/util/AbstractCollection", "<init>", "()V"⟩ : MethodName) jdk_22_method_1_code 1 none :: ws) ({ frames := 1, cells := 0, slots := 0, locals := 12 } : Room)) (fun aQ UQ => aQ = #[(.ref a)] ∧ Z.Warmed39 UQ.vm ∧ UQ.heap = h0) (fun _ _ _ _ _ => True) (fun _ U o U' => ∃ v L, o = .returned v ∧ Qac Z a h0 n0 v U'.heap L ∧ FrameEnd U o U' L ({ frames := 1, cells := 0, slots := 0, locals := 12 } : Room).cells ({ frames := 1, cells := 0, slots := 0, locals := 12 } : Room).slots) := by
  refine MetFree.of_bodySF (plainFor_of_name pnac) hisR ?_
  intro p e s m args below meth c s₁ Bd hml0 hP hK
  obtain ⟨rfl, hZ, hh⟩ := hP
  have hx := Bd.exec
  have hby := Bd.bytes
  have hml : c.maxLocals = 1 := hml0
  have hown : s.vm.findClass "java/util/AbstractCollection" = some m.cls := findClass_of_methodNamed Bd.named
  have hnm := (name_of_methodNamed Bd.named Bd.method).1
  have X0 : Stand p l e ({ frames := 1, cells := 0, slots := 0, locals := 12 } : Room) s m #[(.ref a)] below meth c s₁ [] 0 0 := Stand.of_body Bd
  have e0 : s₁.heap = h0 := by rw [← hh, Bd.state]; rfl
  have N0 := Fr.nil n0
  show OGo p e below (OPost s (Qac Z a h0 n0) ({ frames := 1, cells := 0, slots := 0, locals := 12 } : Room).cells ({ frames := 1, cells := 0, slots := 0, locals := 12 } : Room).slots) (s₁.setTop (entryFrame m #[(.ref a)] 1))
  refine OGo.step (fun uK kK => castTop (efac m a) kK) ?_
  show OGo p e below _ (s₁.setTop (mkF m 0 #[.val (.ref a)] []))
  refine OGo.step (fun uK kK => XS.aloadN X0.here hx rfl (hb hby d14_0) rfl rfl kK) ?_
  show OGo p e below _ (s₁.setTop (mkF m 1 #[.val (.ref a)] [(.ref a)]))
  obtain ⟨T1, X1, e1, st1⟩ := initO X0 hx hZ hown (hw _ (List.mem_of_getElem? (i := 97) rfl)) (hw _ (List.mem_of_getElem? (i := 23) rfl)) (hw _ (List.mem_of_getElem? (i := 24) rfl)) e0 (g := (mkF m 1 #[.val (.ref a)] [(.ref a)])) rfl (by rw [hml]; rfl) rfl (hb hby d14_1) (by decide) (W := 0) (by show 2 * 0 + _ ≤ _; exact Nat.le_of_eq rfl) (by decide)
  refine OGo.step (fun uK kK => st1 uK kK) ?_
  show OGo p e below _ (T1.setTop (mkF m 4 #[.val (.ref a)] []))
  exact OGo.retV X1 hx Bd.notSynchronized Bd.returns (hb hby d14_4) (by decide) (by decide) (by show Qac Z a h0 n0 _ T1.heap _; rw [e1]; exact ⟨rfl, N0, rfl⟩)
theorem d13_0 : decode jdk_91_method_1_code 0 = .ok (.aload_n 0, 1) := by decide +kernel
theorem d13_1 : decode jdk_91_method_1_code 1 = .ok (.invokespecial 1, 3) := by decide +kernel
theorem d13_4 : decode jdk_91_method_1_code 4 = .ok (.return_, 1) := by decide +kernel
theorem pnas : plainName "java/util/AbstractSet" = true := by first | (simp [plainName, overriddenIn]; done) | decide +kernel
theorem pdas_0 : parseMethodDescriptor "()V" = some ⟨[], none⟩ := by decide +kernel
theorem efas (m : MethodId) (x0 : Addr) : entryFrame m #[(.ref x0)] 1 = mkF m 0 #[.val (.ref x0)] [] := by first | (simp [entryFrame, mkF, argsToLocals, Value.category]; done) | rfl
def Qas (Z : State) (a : Addr) (h0 : Heap) (n0 : Nat) (v : Option Value) (h : Heap) (L : List Loc) : Prop := v = none ∧ Fr n0 L ∧ h = h0
set_option maxRecDepth 65536 in
set_option maxHeartbeats 40000000 in
theorem rmas (l : Launch) (Z : State) (a0 : Array Value) (hw : ∀ d ∈ tables_1, d.before a0 Z = true) (ws : List Jvm.Cond) (a : Addr) (h0 : Heap) (n0 : Nat) (Z0 : n0 ≤ h0.size) :
    MetFree l (⟨"java/util/AbstractSet", "<init>", "()V"⟩ : MethodName) (head1 (Jvm.Cond.code (⟨"java/util/AbstractSet", "<init>", "()V"⟩ : MethodName) jdk_91_method_1_code 1 none :: ws) ({ frames := 2, cells := 0, slots := 0, locals := 24 } : Room)) (fun aQ UQ => aQ = #[(.ref a)] ∧ Z.Warmed39 UQ.vm ∧ UQ.heap = h0) (fun _ _ _ _ _ => True) (fun _ U o U' => ∃ v L, o = .returned v ∧ Qas Z a h0 n0 v U'.heap L ∧ FrameEnd U o U' L ({ frames := 2, cells := 0, slots := 0, locals := 24 } : Room).cells ({ frames := 2, cells := 0, slots := 0, locals := 24 } : Room).slots) := by
  refine MetFree.of_bodySF (plainFor_of_name pnas) hisR ?_
  intro p e s m args below meth c s₁ Bd hml0 hP hK
  obtain ⟨rfl, hZ, hh⟩ := hP
  have hx := Bd.exec
  have hby := Bd.bytes
  have hml : c.maxLocals = 1 := hml0
  have hown : s.vm.findClass "java/util/AbstractSet" = some m.cls := findClass_of_methodNamed Bd.named
  have hnm := (name_of_methodNamed Bd.named Bd.method).1
  have X0 : Stand p l e ({ frames := 2, cells := 0, slots := 0, locals := 24 } : Room) s m #[(.ref a)] below meth c s₁ [] 0 0 := Stand.of_body Bd
  have e0 : s₁.heap = h0 := by rw [← hh, Bd.state]; rfl
  have N0 := Fr.nil n0
  show OGo p e below (OPost s (Qas Z a h0 n0) ({ frames := 2, cells := 0, slots := 0, locals := 24 } : Room).cells ({ frames := 2, cells := 0, slots := 0, locals := 24 } : Room).slots) (s₁.setTop (entryFrame m #[(.ref a)] 1))
  refine OGo.step (fun uK kK => castTop (efas m a) kK) ?_
  show OGo p e below _ (s₁.setTop (mkF m 0 #[.val (.ref a)] []))
  refine OGo.step (fun uK kK => XS.aloadN X0.here hx rfl (hb hby d13_0) rfl rfl kK) ?_
  show OGo p e below _ (s₁.setTop (mkF m 1 #[.val (.ref a)] [(.ref a)]))
  obtain ⟨_, _, ⟨T1, Lq1, kq_1, nq_1⟩, -, X1, ⟨Lc1, hQ1, lq1, yq1, zq1⟩, st1⟩ := X0.specialBack hx (y := (⟨"java/util/AbstractCollection", "<init>", "()V"⟩ : MethodName)) rfl hown (mvT hZ (hw _ (List.mem_of_getElem? (i := 91) rfl))) (mvT hZ (hw _ (List.mem_of_getElem? (i := 92) rfl))) (mvT hZ (hw _ (List.mem_of_getElem? (i := 96) rfl))) (by decide) (backOf (W := 0) (rmac l Z a0 hw [] a  h0 n0 Z0 ) hZ (hw _ (List.mem_of_getElem? (i := 96) rfl)) (hw _ (List.mem_of_getElem? (i := 95) rfl)) (by decide) (by decide)) (g := (mkF m 1 #[.val (.ref a)] [(.ref a)])) rfl (by rw [hml]; rfl) (Steps.refl _) (a := a) (argsL := []) (rest := []) (lenOf pdas_0 rfl) rfl (by show 2 * 0 + _ ≤ _; exact Nat.le_of_eq rfl) (hb hby d13_1) (fun _ _ => ⟨rfl, e0, (by decide : 0 + 0 ≤ _), (by decide : 0 + 0 ≤ _)⟩)
  dsimp only [Pt.U, Pt.locs, Pt.cells, Pt.slots] at X1 lq1 yq1 zq1 st1 hQ1
  subst lq1 yq1 zq1
  obtain ⟨rfl, Nq1, e1⟩ := hQ1
  have N1 := Fr.app N0 Nq1
  refine OGo.steps st1 ?_
  show OGo p e below _ (T1.setTop (mkF m 4 #[.val (.ref a)] []))
  exact OGo.retV X1 hx Bd.notSynchronized Bd.returns (hb hby d13_4) (by decide) (by decide) (by show Qas Z a h0 n0 _ T1.heap _; rw [e1]; exact ⟨rfl, N1, rfl⟩)
theorem d17_0 : decode jdk_71_method_1_code 0 = .ok (.aload_n 0, 1) := by decide +kernel
theorem d17_1 : decode jdk_71_method_1_code 1 = .ok (.invokespecial 1, 3) := by decide +kernel
theorem d17_4 : decode jdk_71_method_1_code 4 = .ok (.return_, 1) := by decide +kernel
theorem pnam : plainName "java/util/AbstractMap" = true := by first | (simp [plainName, overriddenIn]; done) | decide +kernel
theorem efam (m : MethodId) (x0 : Addr) : entryFrame m #[(.ref x0)] 1 = mkF m 0 #[.val (.ref x0)] [] := by first | (simp [entryFrame, mkF, argsToLocals, Value.category]; done) | rfl
def Qam (Z : State) (a : Addr) (h0 : Heap) (n0 : Nat) (v : Option Value) (h : Heap) (L : List Loc) : Prop := v = none ∧ Fr n0 L ∧ h = h0
set_option maxRecDepth 65536 in
set_option maxHeartbeats 40000000 in
theorem rmam (l : Launch) (Z : State) (a0 : Array Value) (hw : ∀ d ∈ tables_1, d.before a0 Z = true) (ws : List Jvm.Cond) (a : Addr) (h0 : Heap) (n0 : Nat) (Z0 : n0 ≤ h0.size) :
    MetFree l (⟨"java/util/AbstractMap", "<init>", "()V"⟩ : MethodName) (head1 (Jvm.Cond.code (⟨"java/util/AbstractMap", "<init>", "()V"⟩ : MethodName) jdk_71_method_1_code 1 none :: ws) ({ frames := 1, cells := 0, slots := 0, locals := 12 } : Room)) (fun aQ UQ => aQ = #[(.ref a)] ∧ Z.Warmed39 UQ.vm ∧ UQ.heap = h0) (fun _ _ _ _ _ => True) (fun _ U o U' => ∃ v L, o = .returned v ∧ Qam Z a h0 n0 v U'.heap L ∧ FrameEnd U o U' L ({ frames := 1, cells := 0, slots := 0, locals := 12 } : Room).cells ({ frames := 1, cells := 0, slots := 0, locals := 12 } : Room).slots) := by
  refine MetFree.of_bodySF (plainFor_of_name pnam) hisR ?_
  intro p e s m args below meth c s₁ Bd hml0 hP hK
  obtain ⟨rfl, hZ, hh⟩ := hP
  have hx := Bd.exec
  have hby := Bd.bytes
  have hml : c.maxLocals = 1 := hml0
  have hown : s.vm.findClass "java/util/AbstractMap" = some m.cls := findClass_of_methodNamed Bd.named
  have hnm := (name_of_methodNamed Bd.named Bd.method).1
  have X0 : Stand p l e ({ frames := 1, cells := 0, slots := 0, locals := 12 } : Room) s m #[(.ref a)] below meth c s₁ [] 0 0 := Stand.of_body Bd
  have e0 : s₁.heap = h0 := by rw [← hh, Bd.state]; rfl
  have N0 := Fr.nil n0
  show OGo p e below (OPost s (Qam Z a h0 n0) ({ frames := 1, cells := 0, slots := 0, locals := 12 } : Room).cells ({ frames := 1, cells := 0, slots := 0, locals := 12 } : Room).slots) (s₁.setTop (entryFrame m #[(.ref a)] 1))
  refine OGo.step (fun uK kK => castTop (efam m a) kK) ?_
  show OGo p e below _ (s₁.setTop (mkF m 0 #[.val (.ref a)] []))
  refine OGo.step (fun uK kK => XS.aloadN X0.here hx rfl (hb hby d17_0) rfl rfl kK) ?_
  show OGo p e below _ (s₁.setTop (mkF m 1 #[.val (.ref a)] [(.ref a)]))
  obtain ⟨T1, X1, e1, st1⟩ := initO X0 hx hZ hown (hw _ (List.mem_of_getElem? (i := 117) rfl)) (hw _ (List.mem_of_getElem? (i := 23) rfl)) (hw _ (List.mem_of_getElem? (i := 24) rfl)) e0 (g := (mkF m 1 #[.val (.ref a)] [(.ref a)])) rfl (by rw [hml]; rfl) rfl (hb hby d17_1) (by decide) (W := 0) (by show 2 * 0 + _ ≤ _; exact Nat.le_of_eq rfl) (by decide)
  refine OGo.step (fun uK kK => st1 uK kK) ?_
  show OGo p e below _ (T1.setTop (mkF m 4 #[.val (.ref a)] []))
  exact OGo.retV X1 hx Bd.notSynchronized Bd.returns (hb hby d17_4) (by decide) (by decide) (by show Qam Z a h0 n0 _ T1.heap _; rw [e1]; exact ⟨rfl, N0, rfl⟩)
theorem d1_0 : decode method_2_code 0 = .ok (.iload_n 0, 1) := by decide +kernel
theorem d1_1 : decode method_2_code 1 = .ok (.iconst 3, 1) := by decide +kernel
theorem d1_2 : decode method_2_code 2 = .ok (.iand, 1) := by decide +kernel
theorem d1_3 : decode method_2_code 3 = .ok (.iconst 3, 1) := by decide +kernel
theorem d1_4 : decode method_2_code 4 = .ok (.irem, 1) := by decide +kernel
theorem d1_5 : decode method_2_code 5 = .ok (.istore_n 1, 1) := by decide +kernel
theorem d1_6 : decode method_2_code 6 = .ok (.iload_n 1, 1) := by decide +kernel
theorem d1_7 : decode method_2_code 7 = .ok (.ifCond .ne 7, 3) := by decide +kernel
theorem d1_10 : decode method_2_code 10 = .ok (.getstatic 7, 3) := by decide +kernel
theorem d1_13 : decode method_2_code 13 = .ok (.areturn, 1) := by decide +kernel
theorem d1_14 : decode method_2_code 14 = .ok (.iload_n 1, 1) := by decide +kernel
theorem d1_15 : decode method_2_code 15 = .ok (.iconst 1, 1) := by decide +kernel
theorem d1_16 : decode method_2_code 16 = .ok (.if_icmp .ne 7, 3) := by decide +kernel
theorem d1_19 : decode method_2_code 19 = .ok (.getstatic 13, 3) := by decide +kernel
theorem d1_22 : decode method_2_code 22 = .ok (.areturn, 1) := by decide +kernel
theorem d1_23 : decode method_2_code 23 = .ok (.getstatic 16, 3) := by decide +kernel
theorem d1_26 : decode method_2_code 26 = .ok (.areturn, 1) := by decide +kernel
theorem pnlv : plainName "com/example/graph_of_conflicts/graphofconflicts/engine/TransactionTakeSnapshotPinLaw" = true := by first | (simp [plainName, overriddenIn]; done) | decide +kernel
theorem eflv (m : MethodId) (x0 : Int32) : entryFrame m #[(.int x0)] 2 = mkF m 0 #[.val (.int x0), .unset] [] := by first | (simp [entryFrame, mkF, argsToLocals, Value.category]; done) | rfl
def Qlv (Z : State) (p1 : Int32) (a_READ_COMMITTED : Addr) (a_REPEATABLE_READ : Addr) (a_SERIALIZABLE : Addr) (h0 : Heap) (n0 : Nat) (v : Option Value) (h : Heap) (L : List Loc) : Prop := ∃ r : Addr, v = some (.ref r) ∧ Fr n0 L ∧ h = h0
set_option maxRecDepth 65536 in
set_option maxHeartbeats 40000000 in
theorem rmlv (l : Launch) (Z : State) (a0 : Array Value) (hw : ∀ d ∈ tables_1, d.before a0 Z = true) (ws : List Jvm.Cond) (p1 : Int32) (a_READ_COMMITTED : Addr) (a_REPEATABLE_READ : Addr) (a_SERIALIZABLE : Addr) (h0 : Heap) (n0 : Nat) (Z0 : n0 ≤ h0.size) (S_READ_COMMITTED : Sta Z Z.heap "com/example/graph_of_conflicts/graphofconflicts/api/IsolationLevel" "READ_COMMITTED" "Lcom/example/graph_of_conflicts/graphofconflicts/api/IsolationLevel;" (.ref a_READ_COMMITTED)) (S_REPEATABLE_READ : Sta Z Z.heap "com/example/graph_of_conflicts/graphofconflicts/api/IsolationLevel" "REPEATABLE_READ" "Lcom/example/graph_of_conflicts/graphofconflicts/api/IsolationLevel;" (.ref a_REPEATABLE_READ)) (S_SERIALIZABLE : Sta Z Z.heap "com/example/graph_of_conflicts/graphofconflicts/api/IsolationLevel" "SERIALIZABLE" "Lcom/example/graph_of_conflicts/graphofconflicts/api/IsolationLevel;" (.ref a_SERIALIZABLE)) (Od : Old Z n0 h0) :
    MetFree l (⟨"com/example/graph_of_conflicts/graphofconflicts/engine/TransactionTakeSnapshotPinLaw", "level", "(I)Lcom/example/graph_of_conflicts/graphofconflicts/api/IsolationLevel;"⟩ : MethodName) (head1 (Jvm.Cond.code (⟨"com/example/graph_of_conflicts/graphofconflicts/engine/TransactionTakeSnapshotPinLaw", "level", "(I)Lcom/example/graph_of_conflicts/graphofconflicts/api/IsolationLevel;"⟩ : MethodName) method_2_code 2 (some (.object "com/example/graph_of_conflicts/graphofconflicts/api/IsolationLevel")) :: ws) ({ frames := 0, cells := 0, slots := 0, locals := 0 } : Room)) (fun aQ UQ => aQ = #[(.int p1)] ∧ Z.Warmed39 UQ.vm ∧ UQ.heap = h0) (fun _ _ _ _ _ => True) (fun _ U o U' => ∃ v L, o = .returned v ∧ Qlv Z p1 a_READ_COMMITTED a_REPEATABLE_READ a_SERIALIZABLE h0 n0 v U'.heap L ∧ FrameEnd U o U' L ({ frames := 0, cells := 0, slots := 0, locals := 0 } : Room).cells ({ frames := 0, cells := 0, slots := 0, locals := 0 } : Room).slots) := by
  refine MetFree.of_bodySF (plainFor_of_name pnlv) hisR ?_
  intro p e s m args below meth c s₁ Bd hml0 hP hK
  obtain ⟨rfl, hZ, hh⟩ := hP
  have hx := Bd.exec
  have hby := Bd.bytes
  have hml : c.maxLocals = 2 := hml0
  have hown : s.vm.findClass "com/example/graph_of_conflicts/graphofconflicts/engine/TransactionTakeSnapshotPinLaw" = some m.cls := findClass_of_methodNamed Bd.named
  have hnm := (name_of_methodNamed Bd.named Bd.method).1
  have X0 : Stand p l e ({ frames := 0, cells := 0, slots := 0, locals := 0 } : Room) s m #[(.int p1)] below meth c s₁ [] 0 0 := Stand.of_body Bd
  have e0 : s₁.heap = h0 := by rw [← hh, Bd.state]; rfl
  have N0 := Fr.nil n0
  show OGo p e below (OPost s (Qlv Z p1 a_READ_COMMITTED a_REPEATABLE_READ a_SERIALIZABLE h0 n0) ({ frames := 0, cells := 0, slots := 0, locals := 0 } : Room).cells ({ frames := 0, cells := 0, slots := 0, locals := 0 } : Room).slots) (s₁.setTop (entryFrame m #[(.int p1)] 2))
  refine OGo.step (fun uK kK => castTop (eflv m p1) kK) ?_
  show OGo p e below _ (s₁.setTop (mkF m 0 #[.val (.int p1), .unset] []))
  refine OGo.step (fun uK kK => XS.iloadN X0.here hx rfl (hb hby d1_0) rfl kK) ?_
  show OGo p e below _ (s₁.setTop (mkF m 1 #[.val (.int p1), .unset] [(.int p1)]))
  refine OGo.step (fun uK kK => XS.iconst X0.here hx rfl (hb hby d1_1) kK) ?_
  show OGo p e below _ (s₁.setTop (mkF m 2 #[.val (.int p1), .unset] [(.int (3 : Int32)), (.int p1)]))
  refine OGo.step (fun uK kK => XS.iand X0.here hx rfl (hb hby d1_2) rfl kK) ?_
  show OGo p e below _ (s₁.setTop (mkF m 3 #[.val (.int p1), .unset] [(.int (p1 &&& (3 : Int32)))]))
  refine OGo.step (fun uK kK => XS.iconst X0.here hx rfl (hb hby d1_3) kK) ?_
  show OGo p e below _ (s₁.setTop (mkF m 4 #[.val (.int p1), .unset] [(.int (3 : Int32)), (.int (p1 &&& (3 : Int32)))]))
  have hnz4 : (3 : Int32) ≠ 0 := by decide
  refine OGo.step (fun uK kK => iremM X0 hx rfl (hb hby d1_4) rfl hnz4 kK) ?_
  show OGo p e below _ (s₁.setTop (mkF m 5 #[.val (.int p1), .unset] [(.int ((p1 &&& (3 : Int32)) % (3 : Int32)))]))
  obtain ⟨ii, ev_ii⟩ : ∃ z : Int32, z = ((p1 &&& (3 : Int32)) % (3 : Int32)) := ⟨_, rfl⟩
  rw [← ev_ii]
  show OGo p e below _ (s₁.setTop (mkF m 5 #[.val (.int p1), .unset] [(.int ii)]))
  refine OGo.step (fun uK kK => XS.istoreN X0.here hx rfl (hb hby d1_5) rfl (l' := #[.val (.int p1), .val (.int ii)]) rfl kK) ?_
  show OGo p e below _ (s₁.setTop (mkF m 6 #[.val (.int p1), .val (.int ii)] []))
  refine OGo.step (fun uK kK => XS.iloadN X0.here hx rfl (hb hby d1_6) rfl kK) ?_
  show OGo p e below _ (s₁.setTop (mkF m 7 #[.val (.int p1), .val (.int ii)] [(.int ii)]))
  by_cases hc7 : ii = (0 : Int32)
  · skip
    refine OGo.step (fun uK kK => XS.ifNo X0.here hx rfl (hb hby d1_7) rfl ((if0 _ _).trans (teq hc7).2) kK) ?_
    show OGo p e below _ (s₁.setTop (mkF m 10 #[.val (.int p1), .val (.int ii)] []))
    obtain ⟨T1, X1, e1, st1⟩ := getS2 X0 hx hZ hown (host := "") (Or.inl (hw _ (List.mem_of_getElem? (i := 9) rfl))) Via.refl e0 (S_READ_COMMITTED.ext Od.2) (g := (mkF m 10 #[.val (.int p1), .val (.int ii)] [])) rfl (hb hby d1_10)
    refine OGo.step (fun uK kK => st1 uK kK) ?_
    show OGo p e below _ (T1.setTop (mkF m 13 #[.val (.int p1), .val (.int ii)] [(.ref a_READ_COMMITTED)]))
    exact OGo.retR X1 hx Bd.notSynchronized Bd.returns rfl rfl (hb hby d1_13) (by decide) (by decide) (by show Qlv Z p1 a_READ_COMMITTED a_REPEATABLE_READ a_SERIALIZABLE h0 n0 _ T1.heap _; rw [e1]; exact ⟨_, rfl, N0, rfl⟩)
  · skip
    refine OGo.step (fun uK kK => XS.ifYes X0.here hx rfl (pc0 := 7) (pc' := 14) rfl (hb hby d1_7) rfl ((if0 _ _).trans (feq hc7).2) (by decide) (by decide) kK) ?_
    show OGo p e below _ (s₁.setTop (mkF m 14 #[.val (.int p1), .val (.int ii)] []))
    refine OGo.step (fun uK kK => XS.iloadN X0.here hx rfl (hb hby d1_14) rfl kK) ?_
    show OGo p e below _ (s₁.setTop (mkF m 15 #[.val (.int p1), .val (.int ii)] [(.int ii)]))
    refine OGo.step (fun uK kK => XS.iconst X0.here hx rfl (hb hby d1_15) kK) ?_
    show OGo p e below _ (s₁.setTop (mkF m 16 #[.val (.int p1), .val (.int ii)] [(.int (1 : Int32)), (.int ii)]))
    by_cases hc16 : ii = (1 : Int32)
    · skip
      refine OGo.step (fun uK kK => XS.icmpNo X0.here hx rfl (hb hby d1_16) rfl (teq hc16).2 kK) ?_
      show OGo p e below _ (s₁.setTop (mkF m 19 #[.val (.int p1), .val (.int ii)] []))
      obtain ⟨T2, X2, e2, st2⟩ := getS2 X0 hx hZ hown (host := "") (Or.inl (hw _ (List.mem_of_getElem? (i := 214) rfl))) Via.refl e0 (S_REPEATABLE_READ.ext Od.2) (g := (mkF m 19 #[.val (.int p1), .val (.int ii)] [])) rfl (hb hby d1_19)
      refine OGo.step (fun uK kK => st2 uK kK) ?_
      show OGo p e below _ (T2.setTop (mkF m 22 #[.val (.int p1), .val (.int ii)] [(.ref a_REPEATABLE_READ)]))
      exact OGo.retR X2 hx Bd.notSynchronized Bd.returns rfl rfl (hb hby d1_22) (by decide) (by decide) (by show Qlv Z p1 a_READ_COMMITTED a_REPEATABLE_READ a_SERIALIZABLE h0 n0 _ T2.heap _; rw [e2]; exact ⟨_, rfl, N0, rfl⟩)
    · skip
      refine OGo.step (fun uK kK => XS.icmpYes X0.here hx rfl (pc0 := 16) (pc' := 23) rfl (hb hby d1_16) rfl (feq hc16).2 (by decide) (by decide) kK) ?_
      show OGo p e below _ (s₁.setTop (mkF m 23 #[.val (.int p1), .val (.int ii)] []))
      obtain ⟨T3, X3, e3, st3⟩ := getS2 X0 hx hZ hown (host := "") (Or.inl (hw _ (List.mem_of_getElem? (i := 216) rfl))) Via.refl e0 (S_SERIALIZABLE.ext Od.2) (g := (mkF m 23 #[.val (.int p1), .val (.int ii)] [])) rfl (hb hby d1_23)
      refine OGo.step (fun uK kK => st3 uK kK) ?_
      show OGo p e below _ (T3.setTop (mkF m 26 #[.val (.int p1), .val (.int ii)] [(.ref a_SERIALIZABLE)]))
      exact OGo.retR X3 hx Bd.notSynchronized Bd.returns rfl rfl (hb hby d1_26) (by decide) (by decide) (by show Qlv Z p1 a_READ_COMMITTED a_REPEATABLE_READ a_SERIALIZABLE h0 n0 _ T3.heap _; rw [e3]; exact ⟨_, rfl, N0, rfl⟩)
theorem d6_0 : decode jdk_52_method_21_code 0 = .ok (.iconst 0, 1) := by decide +kernel
theorem d6_1 : decode jdk_52_method_21_code 1 = .ok (.istore 5, 2) := by decide +kernel
theorem d6_3 : decode jdk_52_method_21_code 3 = .ok (.iload 5, 2) := by decide +kernel
theorem d6_5 : decode jdk_52_method_21_code 5 = .ok (.iload 4, 2) := by decide +kernel
theorem d6_7 : decode jdk_52_method_21_code 7 = .ok (.if_icmp .ge 37, 3) := by decide +kernel
theorem d6_10 : decode jdk_52_method_21_code 10 = .ok (.aload_n 0, 1) := by decide +kernel
theorem d6_11 : decode jdk_52_method_21_code 11 = .ok (.iload_n 1, 1) := by decide +kernel
theorem d6_12 : decode jdk_52_method_21_code 12 = .ok (.caload, 1) := by decide +kernel
theorem d6_13 : decode jdk_52_method_21_code 13 = .ok (.istore 6, 2) := by decide +kernel
theorem d6_15 : decode jdk_52_method_21_code 15 = .ok (.iload 6, 2) := by decide +kernel
theorem d6_17 : decode jdk_52_method_21_code 17 = .ok (.sipush 255, 3) := by decide +kernel
theorem d6_20 : decode jdk_52_method_21_code 20 = .ok (.if_icmp .le 6, 3) := by decide +kernel
theorem d6_26 : decode jdk_52_method_21_code 26 = .ok (.aload_n 2, 1) := by decide +kernel
theorem d6_27 : decode jdk_52_method_21_code 27 = .ok (.iload_n 3, 1) := by decide +kernel
theorem d6_28 : decode jdk_52_method_21_code 28 = .ok (.iload 6, 2) := by decide +kernel
theorem d6_30 : decode jdk_52_method_21_code 30 = .ok (.i2b, 1) := by decide +kernel
theorem d6_31 : decode jdk_52_method_21_code 31 = .ok (.bastore, 1) := by decide +kernel
theorem d6_32 : decode jdk_52_method_21_code 32 = .ok (.iinc 1 1, 3) := by decide +kernel
theorem d6_35 : decode jdk_52_method_21_code 35 = .ok (.iinc 3 1, 3) := by decide +kernel
theorem d6_38 : decode jdk_52_method_21_code 38 = .ok (.iinc 5 1, 3) := by decide +kernel
theorem d6_41 : decode jdk_52_method_21_code 41 = .ok (.goto (-38), 3) := by decide +kernel
theorem d6_44 : decode jdk_52_method_21_code 44 = .ok (.iload 4, 2) := by decide +kernel
theorem d6_46 : decode jdk_52_method_21_code 46 = .ok (.ireturn, 1) := by decide +kernel
theorem pnc5 : plainName "java/lang/StringUTF16" = true := by first | (simp [plainName, overriddenIn]; done) | decide +kernel
theorem efc5 (m : MethodId) (x0 : Addr) (x1 : Int32) (x2 : Addr) (x3 : Int32) (x4 : Int32) : entryFrame m #[(.ref x0), (.int x1), (.ref x2), (.int x3), (.int x4)] 7 = mkF m 0 #[.val (.ref x0), .val (.int x1), .val (.ref x2), .val (.int x3), .val (.int x4), .unset, .unset] [] := by first | (simp [entryFrame, mkF, argsToLocals, Value.category]; done) | rfl
def Qc5 (Z : State) (ac : Addr) (aV : Addr) (kc : ClassId) (kV : ClassId) (c0 : Int32) (h0 : Heap) (n0 : Nat) (v : Option Value) (h : Heap) (L : List Loc) : Prop := v = some (.int (1 : Int32)) ∧ Fr n0 L ∧ Keep h0 h [aV] ∧ Arv Z h aV kV .byte (1 : Int32) [(.int (nar .byte (c0.toInt8.toInt32)))] (.int (0 : Int32))
set_option maxRecDepth 65536 in
set_option maxHeartbeats 40000000 in
theorem rmc5 (l : Launch) (Z : State) (a0 : Array Value) (hw : ∀ d ∈ tables_1, d.before a0 Z = true) (ws : List Jvm.Cond) (ac : Addr) (aV : Addr) (kc : ClassId) (kV : ClassId) (c0 : Int32) (h0 : Heap) (n0 : Nat) (Z0 : n0 ≤ h0.size) (Vc : Arv Z h0 ac kc .char (1 : Int32) [(.int c0)] (.int (0 : Int32))) (Vb : Arv Z h0 aV kV .byte (1 : Int32) [(.int (0 : Int32))] (.int (0 : Int32))) (gV : n0 ≤ aV) (neV : ac ≠ aV) (hc0 : ¬ ((255 : Int32) < c0)) :
    MetFree l (⟨"java/lang/StringUTF16", "compress", "([CI[BII)I"⟩ : MethodName) (head1 (Jvm.Cond.code (⟨"java/lang/StringUTF16", "compress", "([CI[BII)I"⟩ : MethodName) jdk_52_method_21_code 7 (some .int) :: ws) ({ frames := 0, cells := 0, slots := 0, locals := 0 } : Room)) (fun aQ UQ => aQ = #[(.ref ac), (.int (0 : Int32)), (.ref aV), (.int (0 : Int32)), (.int (1 : Int32))] ∧ Z.Warmed39 UQ.vm ∧ UQ.heap = h0) (fun _ _ _ _ _ => True) (fun _ U o U' => ∃ v L, o = .returned v ∧ Qc5 Z ac aV kc kV c0 h0 n0 v U'.heap L ∧ FrameEnd U o U' L ({ frames := 0, cells := 0, slots := 0, locals := 0 } : Room).cells ({ frames := 0, cells := 0, slots := 0, locals := 0 } : Room).slots) := by
  refine MetFree.of_bodySF (plainFor_of_name pnc5) hisR ?_
  intro p e s m args below meth c s₁ Bd hml0 hP hK
  obtain ⟨rfl, hZ, hh⟩ := hP
  have hx := Bd.exec
  have hby := Bd.bytes
  have hml : c.maxLocals = 7 := hml0
  have hown : s.vm.findClass "java/lang/StringUTF16" = some m.cls := findClass_of_methodNamed Bd.named
  have hnm := (name_of_methodNamed Bd.named Bd.method).1
  have X0 : Stand p l e ({ frames := 0, cells := 0, slots := 0, locals := 0 } : Room) s m #[(.ref ac), (.int (0 : Int32)), (.ref aV), (.int (0 : Int32)), (.int (1 : Int32))] below meth c s₁ [] 0 0 := Stand.of_body Bd
  have e0 : s₁.heap = h0 := by rw [← hh, Bd.state]; rfl
  have N0 := Fr.nil n0
  show OGo p e below (OPost s (Qc5 Z ac aV kc kV c0 h0 n0) ({ frames := 0, cells := 0, slots := 0, locals := 0 } : Room).cells ({ frames := 0, cells := 0, slots := 0, locals := 0 } : Room).slots) (s₁.setTop (entryFrame m #[(.ref ac), (.int (0 : Int32)), (.ref aV), (.int (0 : Int32)), (.int (1 : Int32))] 7))
  refine OGo.step (fun uK kK => castTop (efc5 m ac (0 : Int32) aV (0 : Int32) (1 : Int32)) kK) ?_
  show OGo p e below _ (s₁.setTop (mkF m 0 #[.val (.ref ac), .val (.int (0 : Int32)), .val (.ref aV), .val (.int (0 : Int32)), .val (.int (1 : Int32)), .unset, .unset] []))
  refine OGo.step (fun uK kK => XS.iconst X0.here hx rfl (hb hby d6_0) kK) ?_
  show OGo p e below _ (s₁.setTop (mkF m 1 #[.val (.ref ac), .val (.int (0 : Int32)), .val (.ref aV), .val (.int (0 : Int32)), .val (.int (1 : Int32)), .unset, .unset] [(.int (0 : Int32))]))
  refine OGo.step (fun uK kK => XS.istore X0.here hx rfl (hb hby d6_1) rfl (l' := #[.val (.ref ac), .val (.int (0 : Int32)), .val (.ref aV), .val (.int (0 : Int32)), .val (.int (1 : Int32)), .val (.int (0 : Int32)), .unset]) rfl kK) ?_
  show OGo p e below _ (s₁.setTop (mkF m 3 #[.val (.ref ac), .val (.int (0 : Int32)), .val (.ref aV), .val (.int (0 : Int32)), .val (.int (1 : Int32)), .val (.int (0 : Int32)), .unset] []))
  refine OGo.step (fun uK kK => XS.iload X0.here hx rfl (hb hby d6_3) rfl kK) ?_
  show OGo p e below _ (s₁.setTop (mkF m 5 #[.val (.ref ac), .val (.int (0 : Int32)), .val (.ref aV), .val (.int (0 : Int32)), .val (.int (1 : Int32)), .val (.int (0 : Int32)), .unset] [(.int (0 : Int32))]))
  refine OGo.step (fun uK kK => XS.iload X0.here hx rfl (hb hby d6_5) rfl kK) ?_
  show OGo p e below _ (s₁.setTop (mkF m 7 #[.val (.ref ac), .val (.int (0 : Int32)), .val (.ref aV), .val (.int (0 : Int32)), .val (.int (1 : Int32)), .val (.int (0 : Int32)), .unset] [(.int (1 : Int32)), (.int (0 : Int32))]))
  have hc7 : (0 : Int32) < (1 : Int32) := by decide
  refine OGo.step (fun uK kK => XS.icmpNo X0.here hx rfl (hb hby d6_7) rfl (tlt hc7).2.1 kK) ?_
  show OGo p e below _ (s₁.setTop (mkF m 10 #[.val (.ref ac), .val (.int (0 : Int32)), .val (.ref aV), .val (.int (0 : Int32)), .val (.int (1 : Int32)), .val (.int (0 : Int32)), .unset] []))
  refine OGo.step (fun uK kK => XS.aloadN X0.here hx rfl (hb hby d6_10) rfl rfl kK) ?_
  show OGo p e below _ (s₁.setTop (mkF m 11 #[.val (.ref ac), .val (.int (0 : Int32)), .val (.ref aV), .val (.int (0 : Int32)), .val (.int (1 : Int32)), .val (.int (0 : Int32)), .unset] [(.ref ac)]))
  refine OGo.step (fun uK kK => XS.iloadN X0.here hx rfl (hb hby d6_11) rfl kK) ?_
  show OGo p e below _ (s₁.setTop (mkF m 12 #[.val (.ref ac), .val (.int (0 : Int32)), .val (.ref aV), .val (.int (0 : Int32)), .val (.int (1 : Int32)), .val (.int (0 : Int32)), .unset] [(.int (0 : Int32)), (.ref ac)]))
  obtain ⟨cl1, Ar1, q1, S1, M1, H1, G1⟩ := id Vc
  have hin1 : ¬ ((0 : Int32) < 0 ∨ cl1.slots.size ≤ ((0 : Int32)).toNatClampNeg) := inb_of S1 ⟨by decide, by decide⟩
  have hat1 : cl1.slots[((0 : Int32)).toNatClampNeg]? = some (.int c0) := H1.at hin1 rfl
  refine OGo.step (fun uK kK => X0.caload hx (j := (0 : Int32)) (v := (.int c0)) (by rw [e0]; exact Ar1.1) (State.isArrayOf_alike hZ.alike Ar1.2.1) Ar1.2.2 hin1 hat1 (g := (mkF m 12 #[.val (.ref ac), .val (.int (0 : Int32)), .val (.ref aV), .val (.int (0 : Int32)), .val (.int (1 : Int32)), .val (.int (0 : Int32)), .unset] [(.int (0 : Int32)), (.ref ac)])) rfl rfl (hb hby d6_12) uK kK) ?_
  show OGo p e below _ (s₁.setTop (mkF m 13 #[.val (.ref ac), .val (.int (0 : Int32)), .val (.ref aV), .val (.int (0 : Int32)), .val (.int (1 : Int32)), .val (.int (0 : Int32)), .unset] [(.int c0)]))
  refine OGo.step (fun uK kK => XS.istore X0.here hx rfl (hb hby d6_13) rfl (l' := #[.val (.ref ac), .val (.int (0 : Int32)), .val (.ref aV), .val (.int (0 : Int32)), .val (.int (1 : Int32)), .val (.int (0 : Int32)), .val (.int c0)]) rfl kK) ?_
  show OGo p e below _ (s₁.setTop (mkF m 15 #[.val (.ref ac), .val (.int (0 : Int32)), .val (.ref aV), .val (.int (0 : Int32)), .val (.int (1 : Int32)), .val (.int (0 : Int32)), .val (.int c0)] []))
  refine OGo.step (fun uK kK => XS.iload X0.here hx rfl (hb hby d6_15) rfl kK) ?_
  show OGo p e below _ (s₁.setTop (mkF m 17 #[.val (.ref ac), .val (.int (0 : Int32)), .val (.ref aV), .val (.int (0 : Int32)), .val (.int (1 : Int32)), .val (.int (0 : Int32)), .val (.int c0)] [(.int c0)]))
  refine OGo.step (fun uK kK => XS.sipush X0.here hx rfl (hb hby d6_17) kK) ?_
  show OGo p e below _ (s₁.setTop (mkF m 20 #[.val (.ref ac), .val (.int (0 : Int32)), .val (.ref aV), .val (.int (0 : Int32)), .val (.int (1 : Int32)), .val (.int (0 : Int32)), .val (.int c0)] [(.int (255 : Int32)), (.int c0)]))
  refine OGo.step (fun uK kK => XS.icmpYes X0.here hx rfl (pc0 := 20) (pc' := 26) rfl (hb hby d6_20) rfl (flt hc0).2.2.2 (by decide) (by decide) kK) ?_
  show OGo p e below _ (s₁.setTop (mkF m 26 #[.val (.ref ac), .val (.int (0 : Int32)), .val (.ref aV), .val (.int (0 : Int32)), .val (.int (1 : Int32)), .val (.int (0 : Int32)), .val (.int c0)] []))
  refine OGo.step (fun uK kK => XS.aloadN X0.here hx rfl (hb hby d6_26) rfl rfl kK) ?_
  show OGo p e below _ (s₁.setTop (mkF m 27 #[.val (.ref ac), .val (.int (0 : Int32)), .val (.ref aV), .val (.int (0 : Int32)), .val (.int (1 : Int32)), .val (.int (0 : Int32)), .val (.int c0)] [(.ref aV)]))
  refine OGo.step (fun uK kK => XS.iloadN X0.here hx rfl (hb hby d6_27) rfl kK) ?_
  show OGo p e below _ (s₁.setTop (mkF m 28 #[.val (.ref ac), .val (.int (0 : Int32)), .val (.ref aV), .val (.int (0 : Int32)), .val (.int (1 : Int32)), .val (.int (0 : Int32)), .val (.int c0)] [(.int (0 : Int32)), (.ref aV)]))
  refine OGo.step (fun uK kK => XS.iload X0.here hx rfl (hb hby d6_28) rfl kK) ?_
  show OGo p e below _ (s₁.setTop (mkF m 30 #[.val (.ref ac), .val (.int (0 : Int32)), .val (.ref aV), .val (.int (0 : Int32)), .val (.int (1 : Int32)), .val (.int (0 : Int32)), .val (.int c0)] [(.int c0), (.int (0 : Int32)), (.ref aV)]))
  refine OGo.step (fun uK kK => XS.i2b X0.here hx rfl (hb hby d6_30) rfl kK) ?_
  show OGo p e below _ (s₁.setTop (mkF m 31 #[.val (.ref ac), .val (.int (0 : Int32)), .val (.ref aV), .val (.int (0 : Int32)), .val (.int (1 : Int32)), .val (.int (0 : Int32)), .val (.int c0)] [(.int (c0.toInt8.toInt32)), (.int (0 : Int32)), (.ref aV)]))
  obtain ⟨cl2, Ar2, q2, S2, M2, H2, G2⟩ := id Vb
  have hin2 : ¬ ((0 : Int32) < 0 ∨ cl2.slots.size ≤ ((0 : Int32)).toNatClampNeg) := inb_of S2 ⟨by decide, by decide⟩
  obtain ⟨T2, h2, X2, e2, W2, st2⟩ := stB X0 hx hZ e0 Ar2 (j := (0 : Int32)) hin2 (g := (mkF m 31 #[.val (.ref ac), .val (.int (0 : Int32)), .val (.ref aV), .val (.int (0 : Int32)), .val (.int (1 : Int32)), .val (.int (0 : Int32)), .val (.int c0)] [(.int (c0.toInt8.toInt32)), (.int (0 : Int32)), (.ref aV)])) rfl rfl (hb hby d6_31)
  have V_aV_2 : Arv Z h2 aV kV .byte (1 : Int32) [(.int (nar .byte (c0.toInt8.toInt32)))] (.int (0 : Int32)) := Arv.set Ar2 q2 S2 M2 H2 G2 (fits_nar_byte _) W2 0 rfl (Nat.le_of_ble_eq_true rfl)
  have Vc_3 := (Vc.other W2 neV)
  have ZS2 : n0 ≤ h2.size := Nat.le_trans Z0 (Keep.of_wr W2).1
  have KC2 : Keep h0 h2 [aV] := (Keep.refl h0 [aV]).wr W2 (Or.inl (List.mem_of_getElem? (i := 0) rfl))
  have N2 := Fr.snoc X2 N0 gV
  refine OGo.step (fun uK kK => st2 uK kK) ?_
  show OGo p e below _ (T2.setTop (mkF m 32 #[.val (.ref ac), .val (.int (0 : Int32)), .val (.ref aV), .val (.int (0 : Int32)), .val (.int (1 : Int32)), .val (.int (0 : Int32)), .val (.int c0)] []))
  refine OGo.step (fun uK kK => XS.iinc X2.here hx rfl (hb hby d6_32) rfl (l' := #[.val (.ref ac), .val (.int (1 : Int32)), .val (.ref aV), .val (.int (0 : Int32)), .val (.int (1 : Int32)), .val (.int (0 : Int32)), .val (.int c0)]) rfl kK) ?_
  show OGo p e below _ (T2.setTop (mkF m 35 #[.val (.ref ac), .val (.int (1 : Int32)), .val (.ref aV), .val (.int (0 : Int32)), .val (.int (1 : Int32)), .val (.int (0 : Int32)), .val (.int c0)] []))
  refine OGo.step (fun uK kK => XS.iinc X2.here hx rfl (hb hby d6_35) rfl (l' := #[.val (.ref ac), .val (.int (1 : Int32)), .val (.ref aV), .val (.int (1 : Int32)), .val (.int (1 : Int32)), .val (.int (0 : Int32)), .val (.int c0)]) rfl kK) ?_
  show OGo p e below _ (T2.setTop (mkF m 38 #[.val (.ref ac), .val (.int (1 : Int32)), .val (.ref aV), .val (.int (1 : Int32)), .val (.int (1 : Int32)), .val (.int (0 : Int32)), .val (.int c0)] []))
  refine OGo.step (fun uK kK => XS.iinc X2.here hx rfl (hb hby d6_38) rfl (l' := #[.val (.ref ac), .val (.int (1 : Int32)), .val (.ref aV), .val (.int (1 : Int32)), .val (.int (1 : Int32)), .val (.int (1 : Int32)), .val (.int c0)]) rfl kK) ?_
  show OGo p e below _ (T2.setTop (mkF m 41 #[.val (.ref ac), .val (.int (1 : Int32)), .val (.ref aV), .val (.int (1 : Int32)), .val (.int (1 : Int32)), .val (.int (1 : Int32)), .val (.int c0)] []))
  refine OGo.step (fun uK kK => XS.goto X2.here hx rfl (pc0 := 41) (pc' := 3) rfl (hb hby d6_41) (by decide) (by decide) kK) ?_
  show OGo p e below _ (T2.setTop (mkF m 3 #[.val (.ref ac), .val (.int (1 : Int32)), .val (.ref aV), .val (.int (1 : Int32)), .val (.int (1 : Int32)), .val (.int (1 : Int32)), .val (.int c0)] []))
  refine OGo.step (fun uK kK => XS.iload X2.here hx rfl (hb hby d6_3) rfl kK) ?_
  show OGo p e below _ (T2.setTop (mkF m 5 #[.val (.ref ac), .val (.int (1 : Int32)), .val (.ref aV), .val (.int (1 : Int32)), .val (.int (1 : Int32)), .val (.int (1 : Int32)), .val (.int c0)] [(.int (1 : Int32))]))
  refine OGo.step (fun uK kK => XS.iload X2.here hx rfl (hb hby d6_5) rfl kK) ?_
  show OGo p e below _ (T2.setTop (mkF m 7 #[.val (.ref ac), .val (.int (1 : Int32)), .val (.ref aV), .val (.int (1 : Int32)), .val (.int (1 : Int32)), .val (.int (1 : Int32)), .val (.int c0)] [(.int (1 : Int32)), (.int (1 : Int32))]))
  have hc7 : ¬ ((1 : Int32) < (1 : Int32)) := by decide
  refine OGo.step (fun uK kK => XS.icmpYes X2.here hx rfl (pc0 := 7) (pc' := 44) rfl (hb hby d6_7) rfl (flt hc7).2.1 (by decide) (by decide) kK) ?_
  show OGo p e below _ (T2.setTop (mkF m 44 #[.val (.ref ac), .val (.int (1 : Int32)), .val (.ref aV), .val (.int (1 : Int32)), .val (.int (1 : Int32)), .val (.int (1 : Int32)), .val (.int c0)] []))
  refine OGo.step (fun uK kK => XS.iload X2.here hx rfl (hb hby d6_44) rfl kK) ?_
  show OGo p e below _ (T2.setTop (mkF m 46 #[.val (.ref ac), .val (.int (1 : Int32)), .val (.ref aV), .val (.int (1 : Int32)), .val (.int (1 : Int32)), .val (.int (1 : Int32)), .val (.int c0)] [(.int (1 : Int32))]))
  exact OGo.retI X2 hx Bd.notSynchronized Bd.returns (hb hby d6_46) (by decide) (by decide) (by show Qc5 Z ac aV kc kV c0 h0 n0 _ T2.heap _; rw [e2]; exact ⟨rfl, N2, KC2, V_aV_2⟩)
theorem d5_0 : decode jdk_52_method_16_code 0 = .ok (.iload_n 2, 1) := by decide +kernel
theorem d5_1 : decode jdk_52_method_16_code 1 = .ok (.newarray .byte, 2) := by decide +kernel
theorem d5_3 : decode jdk_52_method_16_code 3 = .ok (.astore_n 3, 1) := by decide +kernel
theorem d5_4 : decode jdk_52_method_16_code 4 = .ok (.aload_n 0, 1) := by decide +kernel
theorem d5_5 : decode jdk_52_method_16_code 5 = .ok (.iload_n 1, 1) := by decide +kernel
theorem d5_6 : decode jdk_52_method_16_code 6 = .ok (.aload_n 3, 1) := by decide +kernel
theorem d5_7 : decode jdk_52_method_16_code 7 = .ok (.iconst 0, 1) := by decide +kernel
theorem d5_8 : decode jdk_52_method_16_code 8 = .ok (.iload_n 2, 1) := by decide +kernel
theorem d5_9 : decode jdk_52_method_16_code 9 = .ok (.invokestatic 115, 3) := by decide +kernel
theorem d5_12 : decode jdk_52_method_16_code 12 = .ok (.istore 4, 2) := by decide +kernel
theorem d5_14 : decode jdk_52_method_16_code 14 = .ok (.iload 4, 2) := by decide +kernel
theorem d5_16 : decode jdk_52_method_16_code 16 = .ok (.iload_n 2, 1) := by decide +kernel
theorem d5_17 : decode jdk_52_method_16_code 17 = .ok (.if_icmp .eq 40, 3) := by decide +kernel
theorem d5_57 : decode jdk_52_method_16_code 57 = .ok (.aload_n 3, 1) := by decide +kernel
theorem d5_58 : decode jdk_52_method_16_code 58 = .ok (.areturn, 1) := by decide +kernel
theorem pnc3 : plainName "java/lang/StringUTF16" = true := by first | (simp [plainName, overriddenIn]; done) | decide +kernel
theorem pdc3_0 : parseMethodDescriptor "([CI[BII)I" = some ⟨[(.array .char), .int, (.array .byte), .int, .int], some .int⟩ := by decide +kernel
theorem efc3 (m : MethodId) (x0 : Addr) (x1 : Int32) (x2 : Int32) : entryFrame m #[(.ref x0), (.int x1), (.int x2)] 6 = mkF m 0 #[.val (.ref x0), .val (.int x1), .val (.int x2), .unset, .unset, .unset] [] := by first | (simp [entryFrame, mkF, argsToLocals, Value.category]; done) | rfl
def Qc3 (Z : State) (ac : Addr) (kc : ClassId) (c0 : Int32) (h0 : Heap) (n0 : Nat) (v : Option Value) (h : Heap) (L : List Loc) : Prop := ∃ (aV : Addr) (kV : ClassId), v = some (.ref aV) ∧ Fr n0 L ∧ Keep h0 h [] ∧ n0 ≤ aV ∧ h0.size ≤ aV ∧ Arv Z h aV kV .byte (1 : Int32) [(.int (nar .byte (c0.toInt8.toInt32)))] (.int (0 : Int32))
set_option maxRecDepth 65536 in
set_option maxHeartbeats 40000000 in
theorem rmc3 (l : Launch) (Z : State) (a0 : Array Value) (hw : ∀ d ∈ tables_1, d.before a0 Z = true) (ws : List Jvm.Cond) (ac : Addr) (kc : ClassId) (c0 : Int32) (h0 : Heap) (n0 : Nat) (Z0 : n0 ≤ h0.size) (Vc : Arv Z h0 ac kc .char (1 : Int32) [(.int c0)] (.int (0 : Int32))) (hc0 : ¬ ((255 : Int32) < c0)) :
    MetFree l (⟨"java/lang/StringUTF16", "compress", "([CII)[B"⟩ : MethodName) (head1 (Jvm.Cond.code (⟨"java/lang/StringUTF16", "compress", "([CII)[B"⟩ : MethodName) jdk_52_method_16_code 6 (some (.array .byte)) :: ws) ({ frames := 1, cells := 1, slots := 1, locals := 18 } : Room)) (fun aQ UQ => aQ = #[(.ref ac), (.int (0 : Int32)), (.int (1 : Int32))] ∧ Z.Warmed39 UQ.vm ∧ UQ.heap = h0) (fun _ _ _ _ _ => True) (fun _ U o U' => ∃ v L, o = .returned v ∧ Qc3 Z ac kc c0 h0 n0 v U'.heap L ∧ FrameEnd U o U' L ({ frames := 1, cells := 1, slots := 1, locals := 18 } : Room).cells ({ frames := 1, cells := 1, slots := 1, locals := 18 } : Room).slots) := by
  refine MetFree.of_bodySF (plainFor_of_name pnc3) hisR ?_
  intro p e s m args below meth c s₁ Bd hml0 hP hK
  obtain ⟨rfl, hZ, hh⟩ := hP
  have hx := Bd.exec
  have hby := Bd.bytes
  have hml : c.maxLocals = 6 := hml0
  have hown : s.vm.findClass "java/lang/StringUTF16" = some m.cls := findClass_of_methodNamed Bd.named
  have hnm := (name_of_methodNamed Bd.named Bd.method).1
  have X0 : Stand p l e ({ frames := 1, cells := 1, slots := 1, locals := 18 } : Room) s m #[(.ref ac), (.int (0 : Int32)), (.int (1 : Int32))] below meth c s₁ [] 0 0 := Stand.of_body Bd
  have e0 : s₁.heap = h0 := by rw [← hh, Bd.state]; rfl
  have N0 := Fr.nil n0
  show OGo p e below (OPost s (Qc3 Z ac kc c0 h0 n0) ({ frames := 1, cells := 1, slots := 1, locals := 18 } : Room).cells ({ frames := 1, cells := 1, slots := 1, locals := 18 } : Room).slots) (s₁.setTop (entryFrame m #[(.ref ac), (.int (0 : Int32)), (.int (1 : Int32))] 6))
  refine OGo.step (fun uK kK => castTop (efc3 m ac (0 : Int32) (1 : Int32)) kK) ?_
  show OGo p e below _ (s₁.setTop (mkF m 0 #[.val (.ref ac), .val (.int (0 : Int32)), .val (.int (1 : Int32)), .unset, .unset, .unset] []))
  refine OGo.step (fun uK kK => XS.iloadN X0.here hx rfl (hb hby d5_0) rfl kK) ?_
  show OGo p e below _ (s₁.setTop (mkF m 1 #[.val (.ref ac), .val (.int (0 : Int32)), .val (.int (1 : Int32)), .unset, .unset, .unset] [(.int (1 : Int32))]))
  obtain ⟨T1, h1, ki1, X1, e1, E1, A1, st1⟩ := newP X0 hx hZ (hw _ (List.mem_of_getElem? (i := 30) rfl)) e0 (g := (mkF m 1 #[.val (.ref ac), .val (.int (0 : Int32)), .val (.int (1 : Int32)), .unset, .unset, .unset] [(.int (1 : Int32))])) rfl (hb hby d5_1) rfl (by decide) (cap := 1) (by decide) (by decide) (by decide) (by decide)
  obtain ⟨b1, g1⟩ : ∃ z, z = h0.size := ⟨_, rfl⟩
  rw [← g1] at A1 st1
  have ne_ac_b1 : ac ≠ b1 := Nat.ne_of_lt (Nat.lt_of_lt_of_le Vc.lt (Nat.le_of_eq g1.symm))
  have gn_b1 : n0 ≤ b1 := Nat.le_trans Z0 (Nat.le_of_eq g1.symm)
  have sz_b1 : h0.size ≤ b1 := Nat.le_trans (Keep.refl h0 []).1 (Nat.le_of_eq g1.symm)
  have Vc_2 := (Vc.ext E1)
  have ZS1 : n0 ≤ h1.size := Nat.le_trans Z0 E1.1
  have KC1 : Keep h0 h1 [] := (Keep.refl h0 []).ext E1
  have V_b1 : Arv Z h1 b1 ki1 .byte (1 : Int32) [(.int (0 : Int32))] (.int (0 : Int32)) := (Arv.new A1 (by decide)).pad (pad_rep [] (.int (0 : Int32)) 1)
  refine OGo.step (fun uK kK => st1 uK kK) ?_
  show OGo p e below _ (T1.setTop (mkF m 3 #[.val (.ref ac), .val (.int (0 : Int32)), .val (.int (1 : Int32)), .unset, .unset, .unset] [(.ref b1)]))
  refine OGo.step (fun uK kK => XS.astoreN X1.here hx rfl (hb hby d5_3) rfl rfl (l' := #[.val (.ref ac), .val (.int (0 : Int32)), .val (.int (1 : Int32)), .val (.ref b1), .unset, .unset]) rfl kK) ?_
  show OGo p e below _ (T1.setTop (mkF m 4 #[.val (.ref ac), .val (.int (0 : Int32)), .val (.int (1 : Int32)), .val (.ref b1), .unset, .unset] []))
  refine OGo.step (fun uK kK => XS.aloadN X1.here hx rfl (hb hby d5_4) rfl rfl kK) ?_
  show OGo p e below _ (T1.setTop (mkF m 5 #[.val (.ref ac), .val (.int (0 : Int32)), .val (.int (1 : Int32)), .val (.ref b1), .unset, .unset] [(.ref ac)]))
  refine OGo.step (fun uK kK => XS.iloadN X1.here hx rfl (hb hby d5_5) rfl kK) ?_
  show OGo p e below _ (T1.setTop (mkF m 6 #[.val (.ref ac), .val (.int (0 : Int32)), .val (.int (1 : Int32)), .val (.ref b1), .unset, .unset] [(.int (0 : Int32)), (.ref ac)]))
  refine OGo.step (fun uK kK => XS.aloadN X1.here hx rfl (hb hby d5_6) rfl rfl kK) ?_
  show OGo p e below _ (T1.setTop (mkF m 7 #[.val (.ref ac), .val (.int (0 : Int32)), .val (.int (1 : Int32)), .val (.ref b1), .unset, .unset] [(.ref b1), (.int (0 : Int32)), (.ref ac)]))
  refine OGo.step (fun uK kK => XS.iconst X1.here hx rfl (hb hby d5_7) kK) ?_
  show OGo p e below _ (T1.setTop (mkF m 8 #[.val (.ref ac), .val (.int (0 : Int32)), .val (.int (1 : Int32)), .val (.ref b1), .unset, .unset] [(.int (0 : Int32)), (.ref b1), (.int (0 : Int32)), (.ref ac)]))
  refine OGo.step (fun uK kK => XS.iloadN X1.here hx rfl (hb hby d5_8) rfl kK) ?_
  show OGo p e below _ (T1.setTop (mkF m 9 #[.val (.ref ac), .val (.int (0 : Int32)), .val (.int (1 : Int32)), .val (.ref b1), .unset, .unset] [(.int (1 : Int32)), (.int (0 : Int32)), (.ref b1), (.int (0 : Int32)), (.ref ac)]))
  obtain ⟨_, _, ⟨T3, Lq3, kq_3, nq_3⟩, -, X3, ⟨Lc3, hQ3, lq3, yq3, zq3⟩, st3⟩ := Jvm.LawKit.callS X1 hx (y := (⟨"java/lang/StringUTF16", "compress", "([CI[BII)I"⟩ : MethodName)) hown (mvT hZ (hw _ (List.mem_of_getElem? (i := 31) rfl))) (mvT hZ (hw _ (List.mem_of_getElem? (i := 32) rfl))) (mvT hZ (hw _ (List.mem_of_getElem? (i := 28) rfl))) (mvT hZ (hw _ (List.mem_of_getElem? (i := 33) rfl))) (by decide) (backOf (W := 0) (rmc5 l Z a0 hw [] ac b1 kc ki1 c0 h1 n0 ZS1 Vc_2 V_b1 gn_b1 ne_ac_b1 hc0) hZ (hw _ (List.mem_of_getElem? (i := 33) rfl)) (hw _ (List.mem_of_getElem? (i := 28) rfl)) (by decide) (by decide)) (g := (mkF m 9 #[.val (.ref ac), .val (.int (0 : Int32)), .val (.int (1 : Int32)), .val (.ref b1), .unset, .unset] [(.int (1 : Int32)), (.int (0 : Int32)), (.ref b1), (.int (0 : Int32)), (.ref ac)])) rfl (by rw [hml]; rfl) (argsL := [(.ref ac), (.int (0 : Int32)), (.ref b1), (.int (0 : Int32)), (.int (1 : Int32))]) (rest := []) (lenOf pdc3_0 rfl) rfl (by show 2 * 0 + _ ≤ _; exact Nat.le_of_eq rfl) (hb hby d5_9) (fun _ _ => ⟨rfl, e1, (by decide : 1 + 0 ≤ _), (by decide : 1 + 0 ≤ _)⟩)
  dsimp only [Pt.U, Pt.locs, Pt.cells, Pt.slots] at X3 lq3 yq3 zq3 st3 hQ3
  subst lq3 yq3 zq3
  obtain ⟨rfl, Nq3, K3, Vb3⟩ := hQ3
  have Vc_4 := (Vc_2.keep K3 (ninS ne_ac_b1 nin0))
  have ZS3 : n0 ≤ T3.heap.size := Nat.le_trans ZS1 K3.1
  have KC3 : Keep h0 T3.heap [] := KC1.trans K3 (allS (Or.inr sz_b1) all0)
  have N3 := Fr.app N0 Nq3
  refine OGo.step (fun uK kK => st3 uK kK) ?_
  show OGo p e below _ (T3.setTop (mkF m 12 #[.val (.ref ac), .val (.int (0 : Int32)), .val (.int (1 : Int32)), .val (.ref b1), .unset, .unset] [(.int (1 : Int32))]))
  refine OGo.step (fun uK kK => XS.istore X3.here hx rfl (hb hby d5_12) rfl (l' := #[.val (.ref ac), .val (.int (0 : Int32)), .val (.int (1 : Int32)), .val (.ref b1), .val (.int (1 : Int32)), .unset]) rfl kK) ?_
  show OGo p e below _ (T3.setTop (mkF m 14 #[.val (.ref ac), .val (.int (0 : Int32)), .val (.int (1 : Int32)), .val (.ref b1), .val (.int (1 : Int32)), .unset] []))
  refine OGo.step (fun uK kK => XS.iload X3.here hx rfl (hb hby d5_14) rfl kK) ?_
  show OGo p e below _ (T3.setTop (mkF m 16 #[.val (.ref ac), .val (.int (0 : Int32)), .val (.int (1 : Int32)), .val (.ref b1), .val (.int (1 : Int32)), .unset] [(.int (1 : Int32))]))
  refine OGo.step (fun uK kK => XS.iloadN X3.here hx rfl (hb hby d5_16) rfl kK) ?_
  show OGo p e below _ (T3.setTop (mkF m 17 #[.val (.ref ac), .val (.int (0 : Int32)), .val (.int (1 : Int32)), .val (.ref b1), .val (.int (1 : Int32)), .unset] [(.int (1 : Int32)), (.int (1 : Int32))]))
  have hc17 : (1 : Int32) = (1 : Int32) := by decide
  refine OGo.step (fun uK kK => XS.icmpYes X3.here hx rfl (pc0 := 17) (pc' := 57) rfl (hb hby d5_17) rfl (teq hc17).1 (by decide) (by decide) kK) ?_
  show OGo p e below _ (T3.setTop (mkF m 57 #[.val (.ref ac), .val (.int (0 : Int32)), .val (.int (1 : Int32)), .val (.ref b1), .val (.int (1 : Int32)), .unset] []))
  refine OGo.step (fun uK kK => XS.aloadN X3.here hx rfl (hb hby d5_57) rfl rfl kK) ?_
  show OGo p e below _ (T3.setTop (mkF m 58 #[.val (.ref ac), .val (.int (0 : Int32)), .val (.int (1 : Int32)), .val (.ref b1), .val (.int (1 : Int32)), .unset] [(.ref b1)]))
  exact OGo.retR X3 hx Bd.notSynchronized Bd.returns rfl rfl (hb hby d5_58) (by decide) (by decide) (by exact ⟨b1, _, rfl, N3, KC3, gn_b1, sz_b1, Vb3⟩)
theorem d7_0 : decode jdk_52_method_15_code 0 = .ok (.iload_n 1, 1) := by decide +kernel
theorem d7_1 : decode jdk_52_method_15_code 1 = .ok (.aload_n 0, 1) := by decide +kernel
theorem d7_2 : decode jdk_52_method_15_code 2 = .ok (.arraylength, 1) := by decide +kernel
theorem d7_3 : decode jdk_52_method_15_code 3 = .ok (.isub, 1) := by decide +kernel
theorem d7_4 : decode jdk_52_method_15_code 4 = .ok (.bipush 31, 2) := by decide +kernel
theorem d7_6 : decode jdk_52_method_15_code 6 = .ok (.iushr, 1) := by decide +kernel
theorem d7_7 : decode jdk_52_method_15_code 7 = .ok (.i2b, 1) := by decide +kernel
theorem d7_8 : decode jdk_52_method_15_code 8 = .ok (.ireturn, 1) := by decide +kernel
theorem pncf : plainName "java/lang/StringUTF16" = true := by first | (simp [plainName, overriddenIn]; done) | decide +kernel
theorem efcf (m : MethodId) (x0 : Addr) (x1 : Int32) : entryFrame m #[(.ref x0), (.int x1)] 2 = mkF m 0 #[.val (.ref x0), .val (.int x1)] [] := by first | (simp [entryFrame, mkF, argsToLocals, Value.category]; done) | rfl
def Qcf (Z : State) (aV : Addr) (kV : ClassId) (b0 : Int32) (h0 : Heap) (n0 : Nat) (v : Option Value) (h : Heap) (L : List Loc) : Prop := v = some (.int (0 : Int32)) ∧ Fr n0 L ∧ h = h0
set_option maxRecDepth 65536 in
set_option maxHeartbeats 40000000 in
theorem rmcf (l : Launch) (Z : State) (a0 : Array Value) (hw : ∀ d ∈ tables_1, d.before a0 Z = true) (ws : List Jvm.Cond) (aV : Addr) (kV : ClassId) (b0 : Int32) (h0 : Heap) (n0 : Nat) (Z0 : n0 ≤ h0.size) (Vb : Arv Z h0 aV kV .byte (1 : Int32) [(.int b0)] (.int (0 : Int32))) :
    MetFree l (⟨"java/lang/StringUTF16", "coderFromArrayLen", "([BI)B"⟩ : MethodName) (head1 (Jvm.Cond.code (⟨"java/lang/StringUTF16", "coderFromArrayLen", "([BI)B"⟩ : MethodName) jdk_52_method_15_code 2 (some .byte) :: ws) ({ frames := 0, cells := 0, slots := 0, locals := 0 } : Room)) (fun aQ UQ => aQ = #[(.ref aV), (.int (1 : Int32))] ∧ Z.Warmed39 UQ.vm ∧ UQ.heap = h0) (fun _ _ _ _ _ => True) (fun _ U o U' => ∃ v L, o = .returned v ∧ Qcf Z aV kV b0 h0 n0 v U'.heap L ∧ FrameEnd U o U' L ({ frames := 0, cells := 0, slots := 0, locals := 0 } : Room).cells ({ frames := 0, cells := 0, slots := 0, locals := 0 } : Room).slots) := by
  refine MetFree.of_bodySF (plainFor_of_name pncf) hisR ?_
  intro p e s m args below meth c s₁ Bd hml0 hP hK
  obtain ⟨rfl, hZ, hh⟩ := hP
  have hx := Bd.exec
  have hby := Bd.bytes
  have hml : c.maxLocals = 2 := hml0
  have hown : s.vm.findClass "java/lang/StringUTF16" = some m.cls := findClass_of_methodNamed Bd.named
  have hnm := (name_of_methodNamed Bd.named Bd.method).1
  have X0 : Stand p l e ({ frames := 0, cells := 0, slots := 0, locals := 0 } : Room) s m #[(.ref aV), (.int (1 : Int32))] below meth c s₁ [] 0 0 := Stand.of_body Bd
  have e0 : s₁.heap = h0 := by rw [← hh, Bd.state]; rfl
  have N0 := Fr.nil n0
  show OGo p e below (OPost s (Qcf Z aV kV b0 h0 n0) ({ frames := 0, cells := 0, slots := 0, locals := 0 } : Room).cells ({ frames := 0, cells := 0, slots := 0, locals := 0 } : Room).slots) (s₁.setTop (entryFrame m #[(.ref aV), (.int (1 : Int32))] 2))
  refine OGo.step (fun uK kK => castTop (efcf m aV (1 : Int32)) kK) ?_
  show OGo p e below _ (s₁.setTop (mkF m 0 #[.val (.ref aV), .val (.int (1 : Int32))] []))
  refine OGo.step (fun uK kK => XS.iloadN X0.here hx rfl (hb hby d7_0) rfl kK) ?_
  show OGo p e below _ (s₁.setTop (mkF m 1 #[.val (.ref aV), .val (.int (1 : Int32))] [(.int (1 : Int32))]))
  refine OGo.step (fun uK kK => XS.aloadN X0.here hx rfl (hb hby d7_1) rfl rfl kK) ?_
  show OGo p e below _ (s₁.setTop (mkF m 2 #[.val (.ref aV), .val (.int (1 : Int32))] [(.ref aV), (.int (1 : Int32))]))
  obtain ⟨cl1, Ar1, -, S1, M1, -, -⟩ := id Vb
  refine OGo.step (fun uK kK => X0.arraylength hx (by rw [e0]; exact Ar1.1) (State.isArrayOf_alike hZ.alike Ar1.2.1) (g := (mkF m 2 #[.val (.ref aV), .val (.int (1 : Int32))] [(.ref aV), (.int (1 : Int32))])) rfl rfl (hb hby d7_2) uK kK) ?_
  rw [len_of S1 M1]
  show OGo p e below _ (s₁.setTop (mkF m 3 #[.val (.ref aV), .val (.int (1 : Int32))] [(.int (1 : Int32)), (.int (1 : Int32))]))
  refine OGo.step (fun uK kK => XS.isub X0.here hx rfl (hb hby d7_3) rfl kK) ?_
  show OGo p e below _ (s₁.setTop (mkF m 4 #[.val (.ref aV), .val (.int (1 : Int32))] [(.int ((1 : Int32) - (1 : Int32)))]))
  have ez2 : ((1 : Int32) - (1 : Int32)) = (0 : Int32) := by decide
  rw [ez2]
  show OGo p e below _ (s₁.setTop (mkF m 4 #[.val (.ref aV), .val (.int (1 : Int32))] [(.int (0 : Int32))]))
  refine OGo.step (fun uK kK => XS.bipush X0.here hx rfl (hb hby d7_4) kK) ?_
  show OGo p e below _ (s₁.setTop (mkF m 6 #[.val (.ref aV), .val (.int (1 : Int32))] [(.int (31 : Int32)), (.int (0 : Int32))]))
  refine OGo.step (fun uK kK => XS.iushr X0.here hx rfl (hb hby d7_6) rfl kK) ?_
  show OGo p e below _ (s₁.setTop (mkF m 7 #[.val (.ref aV), .val (.int (1 : Int32))] [(.int (((0 : Int32).toUInt32 >>> ((31 : Int32) &&& 31).toUInt32).toInt32))]))
  have ez3 : (((0 : Int32).toUInt32 >>> ((31 : Int32) &&& 31).toUInt32).toInt32) = (0 : Int32) := by decide
  rw [ez3]
  show OGo p e below _ (s₁.setTop (mkF m 7 #[.val (.ref aV), .val (.int (1 : Int32))] [(.int (0 : Int32))]))
  refine OGo.step (fun uK kK => XS.i2b X0.here hx rfl (hb hby d7_7) rfl kK) ?_
  show OGo p e below _ (s₁.setTop (mkF m 8 #[.val (.ref aV), .val (.int (1 : Int32))] [(.int ((0 : Int32).toInt8.toInt32))]))
  exact OGo.retN X0 hx Bd.notSynchronized (t := .byte) Bd.returns (by simp) (hb hby d7_8) (by decide) (by decide) (by show Qcf Z aV kV b0 h0 n0 _ s₁.heap _; rw [e0]; exact ⟨by decide, N0, rfl⟩)
theorem d3_0 : decode jdk_42_method_149_code 0 = .ok (.aload_n 0, 1) := by decide +kernel
theorem d3_1 : decode jdk_42_method_149_code 1 = .ok (.invokespecial 1, 3) := by decide +kernel
theorem d3_4 : decode jdk_42_method_149_code 4 = .ok (.iload_n 3, 1) := by decide +kernel
theorem d3_5 : decode jdk_42_method_149_code 5 = .ok (.ifCond .ne 22, 3) := by decide +kernel
theorem d3_27 : decode jdk_42_method_149_code 27 = .ok (.getstatic 38, 3) := by decide +kernel
theorem d3_30 : decode jdk_42_method_149_code 30 = .ok (.ifCond .eq 28, 3) := by decide +kernel
theorem d3_33 : decode jdk_42_method_149_code 33 = .ok (.aload_n 1, 1) := by decide +kernel
theorem d3_34 : decode jdk_42_method_149_code 34 = .ok (.iload_n 2, 1) := by decide +kernel
theorem d3_35 : decode jdk_42_method_149_code 35 = .ok (.iload_n 3, 1) := by decide +kernel
theorem d3_36 : decode jdk_42_method_149_code 36 = .ok (.invokestatic 177, 3) := by decide +kernel
theorem d3_39 : decode jdk_42_method_149_code 39 = .ok (.astore 5, 2) := by decide +kernel
theorem d3_41 : decode jdk_42_method_149_code 41 = .ok (.aload_n 0, 1) := by decide +kernel
theorem d3_42 : decode jdk_42_method_149_code 42 = .ok (.aload 5, 2) := by decide +kernel
theorem d3_44 : decode jdk_42_method_149_code 44 = .ok (.iload_n 3, 1) := by decide +kernel
theorem d3_45 : decode jdk_42_method_149_code 45 = .ok (.invokestatic 47, 3) := by decide +kernel
theorem d3_48 : decode jdk_42_method_149_code 48 = .ok (.putfield 15, 3) := by decide +kernel
theorem d3_51 : decode jdk_42_method_149_code 51 = .ok (.aload_n 0, 1) := by decide +kernel
theorem d3_52 : decode jdk_42_method_149_code 52 = .ok (.aload 5, 2) := by decide +kernel
theorem d3_54 : decode jdk_42_method_149_code 54 = .ok (.putfield 9, 3) := by decide +kernel
theorem d3_57 : decode jdk_42_method_149_code 57 = .ok (.return_, 1) := by decide +kernel
theorem pns4 : plainName "java/lang/String" = true := by first | (simp [plainName, overriddenIn]; done) | decide +kernel
theorem pds4_0 : parseMethodDescriptor "([CII)[B" = some ⟨[(.array .char), .int, .int], some (.array .byte)⟩ := by decide +kernel
theorem pds4_1 : parseMethodDescriptor "([BI)B" = some ⟨[(.array .byte), .int], some .byte⟩ := by decide +kernel
theorem efs4 (m : MethodId) (x0 : Addr) (x1 : Addr) (x2 : Int32) (x3 : Int32) : entryFrame m #[(.ref x0), (.ref x1), (.int x2), (.int x3), .null] 6 = mkF m 0 #[.val (.ref x0), .val (.ref x1), .val (.int x2), .val (.int x3), .val .null, .unset] [] := by first | (simp [entryFrame, mkF, argsToLocals, Value.category]; done) | rfl
def Qs4 (Z : State) (a : Addr) (ac : Addr) (kc : ClassId) (c0 : Int32) (cs : Int32) (h0 : Heap) (n0 : Nat) (v : Option Value) (h : Heap) (L : List Loc) : Prop := v = none ∧ Fr n0 L ∧ Keep h0 h [a] ∧ ∃ (aV : Addr) (kV : ClassId), n0 ≤ aV ∧ h0.size ≤ aV ∧ Fld Z h a "java/lang/String" "value" "[B" (.ref aV) ∧ Fld Z h a "java/lang/String" "coder" "B" (.int (0 : Int32)) ∧ Fld Z h a "java/lang/String" "hash" "I" (.int (0 : Int32)) ∧ Fld Z h a "java/lang/String" "hashIsZero" "Z" (.int (0 : Int32)) ∧ Arv Z h aV kV .byte (1 : Int32) [(.int (nar .byte (c0.toInt8.toInt32)))] (.int (0 : Int32))
set_option maxRecDepth 65536 in
set_option maxHeartbeats 40000000 in
theorem rms4 (l : Launch) (Z : State) (a0 : Array Value) (hw : ∀ d ∈ tables_1, d.before a0 Z = true) (ws : List Jvm.Cond) (a : Addr) (ac : Addr) (kc : ClassId) (c0 : Int32) (cs : Int32) (h0 : Heap) (n0 : Nat) (Z0 : n0 ≤ h0.size) (Fvalue : Fld Z h0 a "java/lang/String" "value" "[B" .null) (Fcoder : Fld Z h0 a "java/lang/String" "coder" "B" (.int (0 : Int32))) (Fhash : Fld Z h0 a "java/lang/String" "hash" "I" (.int (0 : Int32))) (FhashIsZero : Fld Z h0 a "java/lang/String" "hashIsZero" "Z" (.int (0 : Int32))) (Ex : Exa Z h0 a "java/lang/String") (ga : n0 ≤ a) (Vc : Arv Z h0 ac kc .char (1 : Int32) [(.int c0)] (.int (0 : Int32))) (neC : a ≠ ac) (hc0 : ¬ ((255 : Int32) < c0)) (SCS : Sta Z Z.heap "java/lang/String" "COMPACT_STRINGS" "Z" (.int cs)) (hcs : ¬ (cs = (0 : Int32))) (Od : Old Z n0 h0) :
    MetFree l (⟨"java/lang/String", "<init>", "([CIILjava/lang/Void;)V"⟩ : MethodName) (head1 (Jvm.Cond.code (⟨"java/lang/String", "<init>", "([CIILjava/lang/Void;)V"⟩ : MethodName) jdk_42_method_149_code 6 none :: ws) ({ frames := 2, cells := 1, slots := 1, locals := 36 } : Room)) (fun aQ UQ => aQ = #[(.ref a), (.ref ac), (.int (0 : Int32)), (.int (1 : Int32)), .null] ∧ Z.Warmed39 UQ.vm ∧ UQ.heap = h0) (fun _ _ _ _ _ => True) (fun _ U o U' => ∃ v L, o = .returned v ∧ Qs4 Z a ac kc c0 cs h0 n0 v U'.heap L ∧ FrameEnd U o U' L ({ frames := 2, cells := 1, slots := 1, locals := 36 } : Room).cells ({ frames := 2, cells := 1, slots := 1, locals := 36 } : Room).slots) := by
  refine MetFree.of_bodySF (plainFor_of_name pns4) hisR ?_
  intro p e s m args below meth c s₁ Bd hml0 hP hK
  obtain ⟨rfl, hZ, hh⟩ := hP
  have hx := Bd.exec
  have hby := Bd.bytes
  have hml : c.maxLocals = 6 := hml0
  have hown : s.vm.findClass "java/lang/String" = some m.cls := findClass_of_methodNamed Bd.named
  have hnm := (name_of_methodNamed Bd.named Bd.method).1
  have X0 : Stand p l e ({ frames := 2, cells := 1, slots := 1, locals := 36 } : Room) s m #[(.ref a), (.ref ac), (.int (0 : Int32)), (.int (1 : Int32)), .null] below meth c s₁ [] 0 0 := Stand.of_body Bd
  have e0 : s₁.heap = h0 := by rw [← hh, Bd.state]; rfl
  have N0 := Fr.nil n0
  show OGo p e below (OPost s (Qs4 Z a ac kc c0 cs h0 n0) ({ frames := 2, cells := 1, slots := 1, locals := 36 } : Room).cells ({ frames := 2, cells := 1, slots := 1, locals := 36 } : Room).slots) (s₁.setTop (entryFrame m #[(.ref a), (.ref ac), (.int (0 : Int32)), (.int (1 : Int32)), .null] 6))
  refine OGo.step (fun uK kK => castTop (efs4 m a ac (0 : Int32) (1 : Int32)) kK) ?_
  show OGo p e below _ (s₁.setTop (mkF m 0 #[.val (.ref a), .val (.ref ac), .val (.int (0 : Int32)), .val (.int (1 : Int32)), .val .null, .unset] []))
  refine OGo.step (fun uK kK => XS.aloadN X0.here hx rfl (hb hby d3_0) rfl rfl kK) ?_
  show OGo p e below _ (s₁.setTop (mkF m 1 #[.val (.ref a), .val (.ref ac), .val (.int (0 : Int32)), .val (.int (1 : Int32)), .val .null, .unset] [(.ref a)]))
  obtain ⟨T1, X1, e1, st1⟩ := initO X0 hx hZ hown (hw _ (List.mem_of_getElem? (i := 22) rfl)) (hw _ (List.mem_of_getElem? (i := 23) rfl)) (hw _ (List.mem_of_getElem? (i := 24) rfl)) e0 (g := (mkF m 1 #[.val (.ref a), .val (.ref ac), .val (.int (0 : Int32)), .val (.int (1 : Int32)), .val .null, .unset] [(.ref a)])) rfl (by rw [hml]; rfl) rfl (hb hby d3_1) (by decide) (W := 0) (by show 2 * 0 + _ ≤ _; exact Nat.le_of_eq rfl) (by decide)
  refine OGo.step (fun uK kK => st1 uK kK) ?_
  show OGo p e below _ (T1.setTop (mkF m 4 #[.val (.ref a), .val (.ref ac), .val (.int (0 : Int32)), .val (.int (1 : Int32)), .val .null, .unset] []))
  refine OGo.step (fun uK kK => XS.iloadN X1.here hx rfl (hb hby d3_4) rfl kK) ?_
  show OGo p e below _ (T1.setTop (mkF m 5 #[.val (.ref a), .val (.ref ac), .val (.int (0 : Int32)), .val (.int (1 : Int32)), .val .null, .unset] [(.int (1 : Int32))]))
  have hc5 : ¬ ((1 : Int32) = (0 : Int32)) := by decide
  refine OGo.step (fun uK kK => XS.ifYes X1.here hx rfl (pc0 := 5) (pc' := 27) rfl (hb hby d3_5) rfl ((if0 _ _).trans (feq hc5).2) (by decide) (by decide) kK) ?_
  show OGo p e below _ (T1.setTop (mkF m 27 #[.val (.ref a), .val (.ref ac), .val (.int (0 : Int32)), .val (.int (1 : Int32)), .val .null, .unset] []))
  obtain ⟨T2, X2, e2, st2⟩ := getS2 X1 hx hZ hown (host := "") (Or.inl (hw _ (List.mem_of_getElem? (i := 25) rfl))) Via.refl e1 (SCS.ext Od.2) (g := (mkF m 27 #[.val (.ref a), .val (.ref ac), .val (.int (0 : Int32)), .val (.int (1 : Int32)), .val .null, .unset] [])) rfl (hb hby d3_27)
  refine OGo.step (fun uK kK => st2 uK kK) ?_
  show OGo p e below _ (T2.setTop (mkF m 30 #[.val (.ref a), .val (.ref ac), .val (.int (0 : Int32)), .val (.int (1 : Int32)), .val .null, .unset] [(.int cs)]))
  refine OGo.step (fun uK kK => XS.ifNo X2.here hx rfl (hb hby d3_30) rfl ((if0 _ _).trans (feq hcs).1) kK) ?_
  show OGo p e below _ (T2.setTop (mkF m 33 #[.val (.ref a), .val (.ref ac), .val (.int (0 : Int32)), .val (.int (1 : Int32)), .val .null, .unset] []))
  refine OGo.step (fun uK kK => XS.aloadN X2.here hx rfl (hb hby d3_33) rfl rfl kK) ?_
  show OGo p e below _ (T2.setTop (mkF m 34 #[.val (.ref a), .val (.ref ac), .val (.int (0 : Int32)), .val (.int (1 : Int32)), .val .null, .unset] [(.ref ac)]))
  refine OGo.step (fun uK kK => XS.iloadN X2.here hx rfl (hb hby d3_34) rfl kK) ?_
  show OGo p e below _ (T2.setTop (mkF m 35 #[.val (.ref a), .val (.ref ac), .val (.int (0 : Int32)), .val (.int (1 : Int32)), .val .null, .unset] [(.int (0 : Int32)), (.ref ac)]))
  refine OGo.step (fun uK kK => XS.iloadN X2.here hx rfl (hb hby d3_35) rfl kK) ?_
  show OGo p e below _ (T2.setTop (mkF m 36 #[.val (.ref a), .val (.ref ac), .val (.int (0 : Int32)), .val (.int (1 : Int32)), .val .null, .unset] [(.int (1 : Int32)), (.int (0 : Int32)), (.ref ac)]))
  obtain ⟨_, _, ⟨T3, Lq3, kq_3, nq_3⟩, -, X3, ⟨Lc3, hQ3, lq3, yq3, zq3⟩, st3⟩ := Jvm.LawKit.callS X2 hx (y := (⟨"java/lang/StringUTF16", "compress", "([CII)[B"⟩ : MethodName)) hown (mvT hZ (hw _ (List.mem_of_getElem? (i := 26) rfl))) (mvT hZ (hw _ (List.mem_of_getElem? (i := 27) rfl))) (mvT hZ (hw _ (List.mem_of_getElem? (i := 28) rfl))) (mvT hZ (hw _ (List.mem_of_getElem? (i := 29) rfl))) (by decide) (backOf (W := 0) (rmc3 l Z a0 hw [] ac kc c0 h0 n0 Z0 Vc hc0) hZ (hw _ (List.mem_of_getElem? (i := 29) rfl)) (hw _ (List.mem_of_getElem? (i := 28) rfl)) (by decide) (by decide)) (g := (mkF m 36 #[.val (.ref a), .val (.ref ac), .val (.int (0 : Int32)), .val (.int (1 : Int32)), .val .null, .unset] [(.int (1 : Int32)), (.int (0 : Int32)), (.ref ac)])) rfl (by rw [hml]; rfl) (argsL := [(.ref ac), (.int (0 : Int32)), (.int (1 : Int32))]) (rest := []) (lenOf pds4_0 rfl) rfl (by show 2 * 0 + _ ≤ _; exact Nat.le_of_eq rfl) (hb hby d3_36) (fun _ _ => ⟨rfl, e2, (by decide : 0 + 1 ≤ _), (by decide : 0 + 1 ≤ _)⟩)
  dsimp only [Pt.U, Pt.locs, Pt.cells, Pt.slots] at X3 lq3 yq3 zq3 st3 hQ3
  subst lq3 yq3 zq3
  obtain ⟨aV, kV, rfl, Nq3, K3, gV, zV, Vb3⟩ := hQ3
  have Fvalue_4 := (Fvalue.keep K3 nin0)
  have Fcoder_5 := (Fcoder.keep K3 nin0)
  have Fhash_6 := (Fhash.keep K3 nin0)
  have FhashIsZero_7 := (FhashIsZero.keep K3 nin0)
  have Ex_8 := (Ex.keep K3)
  have Vc_9 := (Vc.keep K3 nin0)
  have ZS3 : n0 ≤ T3.heap.size := Nat.le_trans Z0 K3.1
  have KC3 : Keep h0 T3.heap [a] := (Keep.refl h0 [a]).trans K3 all0
  have Od3 := Od.keep K3 all0
  have N3 := Fr.app N0 Nq3
  refine OGo.step (fun uK kK => st3 uK kK) ?_
  show OGo p e below _ (T3.setTop (mkF m 39 #[.val (.ref a), .val (.ref ac), .val (.int (0 : Int32)), .val (.int (1 : Int32)), .val .null, .unset] [(.ref aV)]))
  have sz_aV : h0.size ≤ aV := Nat.le_trans (Keep.refl h0 [a]).1 zV
  have ne_a_aV : a ≠ aV := Nat.ne_of_lt (Nat.lt_of_lt_of_le Ex.lt zV)
  refine OGo.step (fun uK kK => XS.astore X3.here hx rfl (hb hby d3_39) rfl rfl (l' := #[.val (.ref a), .val (.ref ac), .val (.int (0 : Int32)), .val (.int (1 : Int32)), .val .null, .val (.ref aV)]) rfl kK) ?_
  show OGo p e below _ (T3.setTop (mkF m 41 #[.val (.ref a), .val (.ref ac), .val (.int (0 : Int32)), .val (.int (1 : Int32)), .val .null, .val (.ref aV)] []))
  refine OGo.step (fun uK kK => XS.aloadN X3.here hx rfl (hb hby d3_41) rfl rfl kK) ?_
  show OGo p e below _ (T3.setTop (mkF m 42 #[.val (.ref a), .val (.ref ac), .val (.int (0 : Int32)), .val (.int (1 : Int32)), .val .null, .val (.ref aV)] [(.ref a)]))
  refine OGo.step (fun uK kK => XS.aload X3.here hx rfl (hb hby d3_42) rfl rfl kK) ?_
  show OGo p e below _ (T3.setTop (mkF m 44 #[.val (.ref a), .val (.ref ac), .val (.int (0 : Int32)), .val (.int (1 : Int32)), .val .null, .val (.ref aV)] [(.ref aV), (.ref a)]))
  refine OGo.step (fun uK kK => XS.iloadN X3.here hx rfl (hb hby d3_44) rfl kK) ?_
  show OGo p e below _ (T3.setTop (mkF m 45 #[.val (.ref a), .val (.ref ac), .val (.int (0 : Int32)), .val (.int (1 : Int32)), .val .null, .val (.ref aV)] [(.int (1 : Int32)), (.ref aV), (.ref a)]))
  obtain ⟨_, _, ⟨T10, Lq10, kq_10, nq_10⟩, -, X10, ⟨Lc10, hQ10, lq10, yq10, zq10⟩, st10⟩ := Jvm.LawKit.callS X3 hx (y := (⟨"java/lang/StringUTF16", "coderFromArrayLen", "([BI)B"⟩ : MethodName)) hown (mvT hZ (hw _ (List.mem_of_getElem? (i := 34) rfl))) (mvT hZ (hw _ (List.mem_of_getElem? (i := 35) rfl))) (mvT hZ (hw _ (List.mem_of_getElem? (i := 28) rfl))) (mvT hZ (hw _ (List.mem_of_getElem? (i := 36) rfl))) (by decide) (backOf (W := 1) (rmcf l Z a0 hw [] aV kV (nar .byte (c0.toInt8.toInt32)) T3.heap n0 ZS3 Vb3) hZ (hw _ (List.mem_of_getElem? (i := 36) rfl)) (hw _ (List.mem_of_getElem? (i := 28) rfl)) (by decide) (by decide)) (g := (mkF m 45 #[.val (.ref a), .val (.ref ac), .val (.int (0 : Int32)), .val (.int (1 : Int32)), .val .null, .val (.ref aV)] [(.int (1 : Int32)), (.ref aV), (.ref a)])) rfl (by rw [hml]; rfl) (argsL := [(.ref aV), (.int (1 : Int32))]) (rest := [(.ref a)]) (lenOf pds4_1 rfl) rfl (by show 2 * 0 + _ ≤ _; exact Nat.le_of_eq rfl) (hb hby d3_45) (fun _ _ => ⟨rfl, rfl, (by decide : 1 + 0 ≤ _), (by decide : 1 + 0 ≤ _)⟩)
  dsimp only [Pt.U, Pt.locs, Pt.cells, Pt.slots] at X10 lq10 yq10 zq10 st10 hQ10
  subst lq10 yq10 zq10
  obtain ⟨rfl, Nq10, e10⟩ := hQ10
  have N10 := Fr.app N3 Nq10
  refine OGo.step (fun uK kK => st10 uK kK) ?_
  show OGo p e below _ (T10.setTop (mkF m 48 #[.val (.ref a), .val (.ref ac), .val (.int (0 : Int32)), .val (.int (1 : Int32)), .val .null, .val (.ref aV)] [(.int (0 : Int32)), (.ref a)]))
  obtain ⟨T11, h11, X11, e11, W11, st11⟩ := putFN X10 hx hZ hown (hw _ (List.mem_of_getElem? (i := 37) rfl)) Via.refl e10 Fcoder_5 Ex_8 (Or.inr ⟨(hw _ (List.mem_of_getElem? (i := 38) rfl)), rfl, hnm⟩) (hw _ (List.mem_of_getElem? (i := 13) rfl)) (ty := .byte) (v' := (.int (0 : Int32))) (by decide) rfl rfl (g := (mkF m 48 #[.val (.ref a), .val (.ref ac), .val (.int (0 : Int32)), .val (.int (1 : Int32)), .val .null, .val (.ref aV)] [(.int (0 : Int32)), (.ref a)])) rfl rfl (hb hby d3_48)
  have Fw11 := Fcoder_5.same W11
  have Fvalue_12 := (Fvalue_4.other W11 (Or.inr (slot_ne (Or.inr (hw _ (List.mem_of_getElem? (i := 40) rfl))) (Or.inr (hw _ (List.mem_of_getElem? (i := 38) rfl))) (by decide) (t := (.array .byte)) (t' := .byte) (by decide) (by decide))))
  have Fhash_14 := (Fhash_6.other W11 (Or.inr (slot_ne (Or.inl (hw _ (List.mem_of_getElem? (i := 179) rfl))) (Or.inr (hw _ (List.mem_of_getElem? (i := 38) rfl))) (by decide) (t := .int) (t' := .byte) (by decide) (by decide))))
  have FhashIsZero_15 := (FhashIsZero_7.other W11 (Or.inr (slot_ne (Or.inl (hw _ (List.mem_of_getElem? (i := 181) rfl))) (Or.inr (hw _ (List.mem_of_getElem? (i := 38) rfl))) (by decide) (t := .boolean) (t' := .byte) (by decide) (by decide))))
  have Ex_16 := (Ex_8.wr W11)
  have Vc_17 := (Vc_9.other W11 (Ne.symm neC))
  have Vb3_18 := (Vb3.other W11 (Ne.symm ne_a_aV))
  have ZS11 : n0 ≤ h11.size := Nat.le_trans ZS3 (Keep.of_wr W11).1
  have KC11 : Keep h0 h11 [a] := KC3.wr W11 (Or.inl (List.mem_of_getElem? (i := 0) rfl))
  have N11 := Fr.snoc X11 N10 ga
  have Od11 := Od3.wr W11 ga
  refine OGo.step (fun uK kK => st11 uK kK) ?_
  show OGo p e below _ (T11.setTop (mkF m 51 #[.val (.ref a), .val (.ref ac), .val (.int (0 : Int32)), .val (.int (1 : Int32)), .val .null, .val (.ref aV)] []))
  refine OGo.step (fun uK kK => XS.aloadN X11.here hx rfl (hb hby d3_51) rfl rfl kK) ?_
  show OGo p e below _ (T11.setTop (mkF m 52 #[.val (.ref a), .val (.ref ac), .val (.int (0 : Int32)), .val (.int (1 : Int32)), .val .null, .val (.ref aV)] [(.ref a)]))
  refine OGo.step (fun uK kK => XS.aload X11.here hx rfl (hb hby d3_52) rfl rfl kK) ?_
  show OGo p e below _ (T11.setTop (mkF m 54 #[.val (.ref a), .val (.ref ac), .val (.int (0 : Int32)), .val (.int (1 : Int32)), .val .null, .val (.ref aV)] [(.ref aV), (.ref a)]))
  obtain ⟨T19, h19, X19, e19, W19, st19⟩ := putF X11 hx hZ hown (host := "") (Or.inl (hw _ (List.mem_of_getElem? (i := 39) rfl))) Via.refl e11 Fvalue_12 Ex_16 (Or.inr ⟨(hw _ (List.mem_of_getElem? (i := 40) rfl)), rfl, hnm⟩) (hw _ (List.mem_of_getElem? (i := 13) rfl)) (ty := (.array .byte)) (by decide) rfl rfl (g := (mkF m 54 #[.val (.ref a), .val (.ref ac), .val (.int (0 : Int32)), .val (.int (1 : Int32)), .val .null, .val (.ref aV)] [(.ref aV), (.ref a)])) rfl rfl (hb hby d3_54)
  have Fw19 := Fvalue_12.same W19
  have Fhash_21 := (Fhash_14.other W19 (Or.inr (slot_ne (Or.inl (hw _ (List.mem_of_getElem? (i := 179) rfl))) (Or.inr (hw _ (List.mem_of_getElem? (i := 40) rfl))) (by decide) (t := .int) (t' := (.array .byte)) (by decide) (by decide))))
  have FhashIsZero_22 := (FhashIsZero_15.other W19 (Or.inr (slot_ne (Or.inl (hw _ (List.mem_of_getElem? (i := 181) rfl))) (Or.inr (hw _ (List.mem_of_getElem? (i := 40) rfl))) (by decide) (t := .boolean) (t' := (.array .byte)) (by decide) (by decide))))
  have Ex_23 := (Ex_16.wr W19)
  have Vc_24 := (Vc_17.other W19 (Ne.symm neC))
  have Vb3_25 := (Vb3_18.other W19 (Ne.symm ne_a_aV))
  have Fw11_26 := (Fw11.other W19 (Or.inr (slot_ne (Or.inr (hw _ (List.mem_of_getElem? (i := 38) rfl))) (Or.inr (hw _ (List.mem_of_getElem? (i := 40) rfl))) (by decide) (t := .byte) (t' := (.array .byte)) (by decide) (by decide))))
  have ZS19 : n0 ≤ h19.size := Nat.le_trans ZS11 (Keep.of_wr W19).1
  have KC19 : Keep h0 h19 [a] := KC11.wr W19 (Or.inl (List.mem_of_getElem? (i := 0) rfl))
  have N19 := Fr.snoc X19 N11 ga
  have Od19 := Od11.wr W19 ga
  refine OGo.step (fun uK kK => st19 uK kK) ?_
  show OGo p e below _ (T19.setTop (mkF m 57 #[.val (.ref a), .val (.ref ac), .val (.int (0 : Int32)), .val (.int (1 : Int32)), .val .null, .val (.ref aV)] []))
  exact OGo.retV X19 hx Bd.notSynchronized Bd.returns (hb hby d3_57) (by decide) (by decide) (by show Qs4 Z a ac kc c0 cs h0 n0 _ T19.heap _; rw [e19]; exact ⟨rfl, N19, KC19, aV, kV, gV, sz_aV, Fw19, Fw11_26, Fhash_21, FhashIsZero_22, Vb3_25⟩)
theorem d2_0 : decode jdk_42_method_3_code 0 = .ok (.aload_n 0, 1) := by decide +kernel
theorem d2_1 : decode jdk_42_method_3_code 1 = .ok (.aload_n 1, 1) := by decide +kernel
theorem d2_2 : decode jdk_42_method_3_code 2 = .ok (.iconst 0, 1) := by decide +kernel
theorem d2_3 : decode jdk_42_method_3_code 3 = .ok (.aload_n 1, 1) := by decide +kernel
theorem d2_4 : decode jdk_42_method_3_code 4 = .ok (.arraylength, 1) := by decide +kernel
theorem d2_5 : decode jdk_42_method_3_code 5 = .ok (.aconst_null, 1) := by decide +kernel
theorem d2_6 : decode jdk_42_method_3_code 6 = .ok (.invokespecial 27, 3) := by decide +kernel
theorem d2_9 : decode jdk_42_method_3_code 9 = .ok (.return_, 1) := by decide +kernel
theorem pns1 : plainName "java/lang/String" = true := by first | (simp [plainName, overriddenIn]; done) | decide +kernel
theorem pds1_0 : parseMethodDescriptor "([CIILjava/lang/Void;)V" = some ⟨[(.array .char), .int, .int, (.object "java/lang/Void")], none⟩ := by decide +kernel
theorem efs1 (m : MethodId) (x0 : Addr) (x1 : Addr) : entryFrame m #[(.ref x0), (.ref x1)] 2 = mkF m 0 #[.val (.ref x0), .val (.ref x1)] [] := by first | (simp [entryFrame, mkF, argsToLocals, Value.category]; done) | rfl
def Qs1 (Z : State) (a : Addr) (ac : Addr) (kc : ClassId) (c0 : Int32) (cs : Int32) (h0 : Heap) (n0 : Nat) (v : Option Value) (h : Heap) (L : List Loc) : Prop := v = none ∧ Fr n0 L ∧ Keep h0 h [a] ∧ ∃ (aV : Addr) (kV : ClassId), n0 ≤ aV ∧ h0.size ≤ aV ∧ Fld Z h a "java/lang/String" "value" "[B" (.ref aV) ∧ Fld Z h a "java/lang/String" "coder" "B" (.int (0 : Int32)) ∧ Fld Z h a "java/lang/String" "hash" "I" (.int (0 : Int32)) ∧ Fld Z h a "java/lang/String" "hashIsZero" "Z" (.int (0 : Int32)) ∧ Arv Z h aV kV .byte (1 : Int32) [(.int (nar .byte (c0.toInt8.toInt32)))] (.int (0 : Int32))
set_option maxRecDepth 65536 in
set_option maxHeartbeats 40000000 in
theorem rms1 (l : Launch) (Z : State) (a0 : Array Value) (hw : ∀ d ∈ tables_1, d.before a0 Z = true) (ws : List Jvm.Cond) (a : Addr) (ac : Addr) (kc : ClassId) (c0 : Int32) (cs : Int32) (h0 : Heap) (n0 : Nat) (Z0 : n0 ≤ h0.size) (Fvalue : Fld Z h0 a "java/lang/String" "value" "[B" .null) (Fcoder : Fld Z h0 a "java/lang/String" "coder" "B" (.int (0 : Int32))) (Fhash : Fld Z h0 a "java/lang/String" "hash" "I" (.int (0 : Int32))) (FhashIsZero : Fld Z h0 a "java/lang/String" "hashIsZero" "Z" (.int (0 : Int32))) (Ex : Exa Z h0 a "java/lang/String") (ga : n0 ≤ a) (Vc : Arv Z h0 ac kc .char (1 : Int32) [(.int c0)] (.int (0 : Int32))) (neC : a ≠ ac) (hc0 : ¬ ((255 : Int32) < c0)) (SCS : Sta Z Z.heap "java/lang/String" "COMPACT_STRINGS" "Z" (.int cs)) (hcs : ¬ (cs = (0 : Int32))) (Od : Old Z n0 h0) :
    MetFree l (⟨"java/lang/String", "<init>", "([C)V"⟩ : MethodName) (head1 (Jvm.Cond.code (⟨"java/lang/String", "<init>", "([C)V"⟩ : MethodName) jdk_42_method_3_code 2 none :: ws) ({ frames := 3, cells := 1, slots := 1, locals := 53 } : Room)) (fun aQ UQ => aQ = #[(.ref a), (.ref ac)] ∧ Z.Warmed39 UQ.vm ∧ UQ.heap = h0) (fun _ _ _ _ _ => True) (fun _ U o U' => ∃ v L, o = .returned v ∧ Qs1 Z a ac kc c0 cs h0 n0 v U'.heap L ∧ FrameEnd U o U' L ({ frames := 3, cells := 1, slots := 1, locals := 53 } : Room).cells ({ frames := 3, cells := 1, slots := 1, locals := 53 } : Room).slots) := by
  refine MetFree.of_bodySF (plainFor_of_name pns1) hisR ?_
  intro p e s m args below meth c s₁ Bd hml0 hP hK
  obtain ⟨rfl, hZ, hh⟩ := hP
  have hx := Bd.exec
  have hby := Bd.bytes
  have hml : c.maxLocals = 2 := hml0
  have hown : s.vm.findClass "java/lang/String" = some m.cls := findClass_of_methodNamed Bd.named
  have hnm := (name_of_methodNamed Bd.named Bd.method).1
  have X0 : Stand p l e ({ frames := 3, cells := 1, slots := 1, locals := 53 } : Room) s m #[(.ref a), (.ref ac)] below meth c s₁ [] 0 0 := Stand.of_body Bd
  have e0 : s₁.heap = h0 := by rw [← hh, Bd.state]; rfl
  have N0 := Fr.nil n0
  show OGo p e below (OPost s (Qs1 Z a ac kc c0 cs h0 n0) ({ frames := 3, cells := 1, slots := 1, locals := 53 } : Room).cells ({ frames := 3, cells := 1, slots := 1, locals := 53 } : Room).slots) (s₁.setTop (entryFrame m #[(.ref a), (.ref ac)] 2))
  refine OGo.step (fun uK kK => castTop (efs1 m a ac) kK) ?_
  show OGo p e below _ (s₁.setTop (mkF m 0 #[.val (.ref a), .val (.ref ac)] []))
  refine OGo.step (fun uK kK => XS.aloadN X0.here hx rfl (hb hby d2_0) rfl rfl kK) ?_
  show OGo p e below _ (s₁.setTop (mkF m 1 #[.val (.ref a), .val (.ref ac)] [(.ref a)]))
  refine OGo.step (fun uK kK => XS.aloadN X0.here hx rfl (hb hby d2_1) rfl rfl kK) ?_
  show OGo p e below _ (s₁.setTop (mkF m 2 #[.val (.ref a), .val (.ref ac)] [(.ref ac), (.ref a)]))
  refine OGo.step (fun uK kK => XS.iconst X0.here hx rfl (hb hby d2_2) kK) ?_
  show OGo p e below _ (s₁.setTop (mkF m 3 #[.val (.ref a), .val (.ref ac)] [(.int (0 : Int32)), (.ref ac), (.ref a)]))
  refine OGo.step (fun uK kK => XS.aloadN X0.here hx rfl (hb hby d2_3) rfl rfl kK) ?_
  show OGo p e below _ (s₁.setTop (mkF m 4 #[.val (.ref a), .val (.ref ac)] [(.ref ac), (.int (0 : Int32)), (.ref ac), (.ref a)]))
  obtain ⟨cl1, Ar1, -, S1, M1, -, -⟩ := id Vc
  refine OGo.step (fun uK kK => X0.arraylength hx (by rw [e0]; exact Ar1.1) (State.isArrayOf_alike hZ.alike Ar1.2.1) (g := (mkF m 4 #[.val (.ref a), .val (.ref ac)] [(.ref ac), (.int (0 : Int32)), (.ref ac), (.ref a)])) rfl rfl (hb hby d2_4) uK kK) ?_
  rw [len_of S1 M1]
  show OGo p e below _ (s₁.setTop (mkF m 5 #[.val (.ref a), .val (.ref ac)] [(.int (1 : Int32)), (.int (0 : Int32)), (.ref ac), (.ref a)]))
  refine OGo.step (fun uK kK => XS.aconstNull X0.here hx rfl (hb hby d2_5) kK) ?_
  show OGo p e below _ (s₁.setTop (mkF m 6 #[.val (.ref a), .val (.ref ac)] [.null, (.int (1 : Int32)), (.int (0 : Int32)), (.ref ac), (.ref a)]))
  obtain ⟨_, _, ⟨T2, Lq2, kq_2, nq_2⟩, -, X2, ⟨Lc2, hQ2, lq2, yq2, zq2⟩, st2⟩ := X0.specialBack hx (y := (⟨"java/lang/String", "<init>", "([CIILjava/lang/Void;)V"⟩ : MethodName)) rfl hown (mvT hZ (hw _ (List.mem_of_getElem? (i := 18) rfl))) (mvT hZ (hw _ (List.mem_of_getElem? (i := 19) rfl))) (mvT hZ (hw _ (List.mem_of_getElem? (i := 21) rfl))) (by decide) (backOf (W := 0) (rms4 l Z a0 hw [] a ac kc c0 cs h0 n0 Z0 Fvalue Fcoder Fhash FhashIsZero Ex ga Vc neC hc0 SCS hcs Od) hZ (hw _ (List.mem_of_getElem? (i := 21) rfl)) (hw _ (List.mem_of_getElem? (i := 14) rfl)) (by decide) (by decide)) (g := (mkF m 6 #[.val (.ref a), .val (.ref ac)] [.null, (.int (1 : Int32)), (.int (0 : Int32)), (.ref ac), (.ref a)])) rfl (by rw [hml]; rfl) (Steps.refl _) (a := a) (argsL := [(.ref ac), (.int (0 : Int32)), (.int (1 : Int32)), .null]) (rest := []) (lenOf pds1_0 rfl) rfl (by show 2 * 0 + _ ≤ _; exact Nat.le_of_eq rfl) (hb hby d2_6) (fun _ _ => ⟨rfl, e0, (by decide : 0 + 1 ≤ _), (by decide : 0 + 1 ≤ _)⟩)
  dsimp only [Pt.U, Pt.locs, Pt.cells, Pt.slots] at X2 lq2 yq2 zq2 st2 hQ2
  subst lq2 yq2 zq2
  obtain ⟨rfl, Nq2, K2, P2⟩ := hQ2
  have Vc_3 := (Vc.keep K2 (ninS (Ne.symm neC) nin0))
  have ZS2 : n0 ≤ T2.heap.size := Nat.le_trans Z0 K2.1
  have KC2 : Keep h0 T2.heap [a] := (Keep.refl h0 [a]).trans K2 (allS (Or.inl (List.mem_of_getElem? (i := 0) rfl)) all0)
  have Od2 := Od.keep K2 (allS ga all0)
  have N2 := Fr.app N0 Nq2
  refine OGo.steps st2 ?_
  show OGo p e below _ (T2.setTop (mkF m 9 #[.val (.ref a), .val (.ref ac)] []))
  exact OGo.retV X2 hx Bd.notSynchronized Bd.returns (hb hby d2_9) (by decide) (by decide) (by exact ⟨rfl, N2, KC2, P2⟩)
theorem d25_0 : decode jdk_42_method_154_code 0 = .ok (.getstatic 38, 3) := by decide +kernel
theorem d25_3 : decode jdk_42_method_154_code 3 = .ok (.ifCond .eq 14, 3) := by decide +kernel
theorem d25_6 : decode jdk_42_method_154_code 6 = .ok (.aload_n 0, 1) := by decide +kernel
theorem d25_7 : decode jdk_42_method_154_code 7 = .ok (.getfield 15, 3) := by decide +kernel
theorem d25_10 : decode jdk_42_method_154_code 10 = .ok (.ifCond .ne 7, 3) := by decide +kernel
theorem d25_13 : decode jdk_42_method_154_code 13 = .ok (.iconst 1, 1) := by decide +kernel
theorem d25_14 : decode jdk_42_method_154_code 14 = .ok (.goto 4, 3) := by decide +kernel
theorem d25_18 : decode jdk_42_method_154_code 18 = .ok (.ireturn, 1) := by decide +kernel
theorem pnil : plainName "java/lang/String" = true := by first | (simp [plainName, overriddenIn]; done) | decide +kernel
theorem efil (m : MethodId) (x0 : Addr) : entryFrame m #[(.ref x0)] 1 = mkF m 0 #[.val (.ref x0)] [] := by first | (simp [entryFrame, mkF, argsToLocals, Value.category]; done) | rfl
def Qil (Z : State) (a : Addr) (cs : Int32) (h0 : Heap) (n0 : Nat) (v : Option Value) (h : Heap) (L : List Loc) : Prop := v = some (.int (1 : Int32)) ∧ Fr n0 L ∧ h = h0
set_option maxRecDepth 65536 in
set_option maxHeartbeats 40000000 in
theorem rmil (l : Launch) (Z : State) (a0 : Array Value) (hw : ∀ d ∈ tables_1, d.before a0 Z = true) (ws : List Jvm.Cond) (a : Addr) (cs : Int32) (h0 : Heap) (n0 : Nat) (Z0 : n0 ≤ h0.size) (Fc : Fld Z h0 a "java/lang/String" "coder" "B" (.int (0 : Int32))) (SCS : Sta Z Z.heap "java/lang/String" "COMPACT_STRINGS" "Z" (.int cs)) (hcs : ¬ (cs = (0 : Int32))) (Od : Old Z n0 h0) :
    MetFree l (⟨"java/lang/String", "isLatin1", "()Z"⟩ : MethodName) (head1 (Jvm.Cond.code (⟨"java/lang/String", "isLatin1", "()Z"⟩ : MethodName) jdk_42_method_154_code 1 (some .boolean) :: ws) ({ frames := 0, cells := 0, slots := 0, locals := 0 } : Room)) (fun aQ UQ => aQ = #[(.ref a)] ∧ Z.Warmed39 UQ.vm ∧ UQ.heap = h0) (fun _ _ _ _ _ => True) (fun _ U o U' => ∃ v L, o = .returned v ∧ Qil Z a cs h0 n0 v U'.heap L ∧ FrameEnd U o U' L ({ frames := 0, cells := 0, slots := 0, locals := 0 } : Room).cells ({ frames := 0, cells := 0, slots := 0, locals := 0 } : Room).slots) := by
  refine MetFree.of_bodySF (plainFor_of_name pnil) hisR ?_
  intro p e s m args below meth c s₁ Bd hml0 hP hK
  obtain ⟨rfl, hZ, hh⟩ := hP
  have hx := Bd.exec
  have hby := Bd.bytes
  have hml : c.maxLocals = 1 := hml0
  have hown : s.vm.findClass "java/lang/String" = some m.cls := findClass_of_methodNamed Bd.named
  have hnm := (name_of_methodNamed Bd.named Bd.method).1
  have X0 : Stand p l e ({ frames := 0, cells := 0, slots := 0, locals := 0 } : Room) s m #[(.ref a)] below meth c s₁ [] 0 0 := Stand.of_body Bd
  have e0 : s₁.heap = h0 := by rw [← hh, Bd.state]; rfl
  have N0 := Fr.nil n0
  show OGo p e below (OPost s (Qil Z a cs h0 n0) ({ frames := 0, cells := 0, slots := 0, locals := 0 } : Room).cells ({ frames := 0, cells := 0, slots := 0, locals := 0 } : Room).slots) (s₁.setTop (entryFrame m #[(.ref a)] 1))
  refine OGo.step (fun uK kK => castTop (efil m a) kK) ?_
  show OGo p e below _ (s₁.setTop (mkF m 0 #[.val (.ref a)] []))
  obtain ⟨T1, X1, e1, st1⟩ := getS2 X0 hx hZ hown (host := "") (Or.inl (hw _ (List.mem_of_getElem? (i := 25) rfl))) Via.refl e0 (SCS.ext Od.2) (g := (mkF m 0 #[.val (.ref a)] [])) rfl (hb hby d25_0)
  refine OGo.step (fun uK kK => st1 uK kK) ?_
  show OGo p e below _ (T1.setTop (mkF m 3 #[.val (.ref a)] [(.int cs)]))
  refine OGo.step (fun uK kK => XS.ifNo X1.here hx rfl (hb hby d25_3) rfl ((if0 _ _).trans (feq hcs).1) kK) ?_
  show OGo p e below _ (T1.setTop (mkF m 6 #[.val (.ref a)] []))
  refine OGo.step (fun uK kK => XS.aloadN X1.here hx rfl (hb hby d25_6) rfl rfl kK) ?_
  show OGo p e below _ (T1.setTop (mkF m 7 #[.val (.ref a)] [(.ref a)]))
  obtain ⟨T2, X2, e2, st2⟩ := getF X1 hx hZ hown (host := "") (Or.inl (hw _ (List.mem_of_getElem? (i := 37) rfl))) Via.refl e1 Fc (g := (mkF m 7 #[.val (.ref a)] [(.ref a)])) rfl rfl (hb hby d25_7)
  refine OGo.step (fun uK kK => st2 uK kK) ?_
  show OGo p e below _ (T2.setTop (mkF m 10 #[.val (.ref a)] [(.int (0 : Int32))]))
  have hc10 : (0 : Int32) = (0 : Int32) := by decide
  refine OGo.step (fun uK kK => XS.ifNo X2.here hx rfl (hb hby d25_10) rfl ((if0 _ _).trans (teq hc10).2) kK) ?_
  show OGo p e below _ (T2.setTop (mkF m 13 #[.val (.ref a)] []))
  refine OGo.step (fun uK kK => XS.iconst X2.here hx rfl (hb hby d25_13) kK) ?_
  show OGo p e below _ (T2.setTop (mkF m 14 #[.val (.ref a)] [(.int (1 : Int32))]))
  refine OGo.step (fun uK kK => XS.goto X2.here hx rfl (pc0 := 14) (pc' := 18) rfl (hb hby d25_14) (by decide) (by decide) kK) ?_
  show OGo p e below _ (T2.setTop (mkF m 18 #[.val (.ref a)] [(.int (1 : Int32))]))
  exact OGo.retN X2 hx Bd.notSynchronized (t := .boolean) Bd.returns (by simp) (hb hby d25_18) (by decide) (by decide) (by show Qil Z a cs h0 n0 _ T2.heap _; rw [e2]; exact ⟨by decide, N0, rfl⟩)
theorem d26_0 : decode jdk_43_method_21_code 0 = .ok (.aload_n 0, 1) := by decide +kernel
theorem d26_1 : decode jdk_43_method_21_code 1 = .ok (.arraylength, 1) := by decide +kernel
theorem d26_2 : decode jdk_43_method_21_code 2 = .ok (.lookupswitch 40 #[(0, 26), (1, 30)], 26) := by decide +kernel
theorem d26_32 : decode jdk_43_method_21_code 32 = .ok (.aload_n 0, 1) := by decide +kernel
theorem d26_33 : decode jdk_43_method_21_code 33 = .ok (.iconst 0, 1) := by decide +kernel
theorem d26_34 : decode jdk_43_method_21_code 34 = .ok (.baload, 1) := by decide +kernel
theorem d26_35 : decode jdk_43_method_21_code 35 = .ok (.sipush 255, 3) := by decide +kernel
theorem d26_38 : decode jdk_43_method_21_code 38 = .ok (.iand, 1) := by decide +kernel
theorem d26_39 : decode jdk_43_method_21_code 39 = .ok (.goto 12, 3) := by decide +kernel
theorem d26_51 : decode jdk_43_method_21_code 51 = .ok (.ireturn, 1) := by decide +kernel
theorem pnlh : plainName "java/lang/StringLatin1" = true := by first | (simp [plainName, overriddenIn]; done) | decide +kernel
theorem eflh (m : MethodId) (x0 : Addr) : entryFrame m #[(.ref x0)] 1 = mkF m 0 #[.val (.ref x0)] [] := by first | (simp [entryFrame, mkF, argsToLocals, Value.category]; done) | rfl
def Qlh (Z : State) (aV : Addr) (kV : ClassId) (b0 : Int32) (h0 : Heap) (n0 : Nat) (v : Option Value) (h : Heap) (L : List Loc) : Prop := v = some (.int (b0 &&& (255 : Int32))) ∧ Fr n0 L ∧ h = h0
set_option maxRecDepth 65536 in
set_option maxHeartbeats 40000000 in
theorem rmlh (l : Launch) (Z : State) (a0 : Array Value) (hw : ∀ d ∈ tables_1, d.before a0 Z = true) (ws : List Jvm.Cond) (aV : Addr) (kV : ClassId) (b0 : Int32) (h0 : Heap) (n0 : Nat) (Z0 : n0 ≤ h0.size) (Vb : Arv Z h0 aV kV .byte (1 : Int32) [(.int b0)] (.int (0 : Int32))) :
    MetFree l (⟨"java/lang/StringLatin1", "hashCode", "([B)I"⟩ : MethodName) (head1 (Jvm.Cond.code (⟨"java/lang/StringLatin1", "hashCode", "([B)I"⟩ : MethodName) jdk_43_method_21_code 1 (some .int) :: ws) ({ frames := 0, cells := 0, slots := 0, locals := 0 } : Room)) (fun aQ UQ => aQ = #[(.ref aV)] ∧ Z.Warmed39 UQ.vm ∧ UQ.heap = h0) (fun _ _ _ _ _ => True) (fun _ U o U' => ∃ v L, o = .returned v ∧ Qlh Z aV kV b0 h0 n0 v U'.heap L ∧ FrameEnd U o U' L ({ frames := 0, cells := 0, slots := 0, locals := 0 } : Room).cells ({ frames := 0, cells := 0, slots := 0, locals := 0 } : Room).slots) := by
  refine MetFree.of_bodySF (plainFor_of_name pnlh) hisR ?_
  intro p e s m args below meth c s₁ Bd hml0 hP hK
  obtain ⟨rfl, hZ, hh⟩ := hP
  have hx := Bd.exec
  have hby := Bd.bytes
  have hml : c.maxLocals = 1 := hml0
  have hown : s.vm.findClass "java/lang/StringLatin1" = some m.cls := findClass_of_methodNamed Bd.named
  have hnm := (name_of_methodNamed Bd.named Bd.method).1
  have X0 : Stand p l e ({ frames := 0, cells := 0, slots := 0, locals := 0 } : Room) s m #[(.ref aV)] below meth c s₁ [] 0 0 := Stand.of_body Bd
  have e0 : s₁.heap = h0 := by rw [← hh, Bd.state]; rfl
  have N0 := Fr.nil n0
  show OGo p e below (OPost s (Qlh Z aV kV b0 h0 n0) ({ frames := 0, cells := 0, slots := 0, locals := 0 } : Room).cells ({ frames := 0, cells := 0, slots := 0, locals := 0 } : Room).slots) (s₁.setTop (entryFrame m #[(.ref aV)] 1))
  refine OGo.step (fun uK kK => castTop (eflh m aV) kK) ?_
  show OGo p e below _ (s₁.setTop (mkF m 0 #[.val (.ref aV)] []))
  refine OGo.step (fun uK kK => XS.aloadN X0.here hx rfl (hb hby d26_0) rfl rfl kK) ?_
  show OGo p e below _ (s₁.setTop (mkF m 1 #[.val (.ref aV)] [(.ref aV)]))
  obtain ⟨cl1, Ar1, -, S1, M1, -, -⟩ := id Vb
  refine OGo.step (fun uK kK => X0.arraylength hx (by rw [e0]; exact Ar1.1) (State.isArrayOf_alike hZ.alike Ar1.2.1) (g := (mkF m 1 #[.val (.ref aV)] [(.ref aV)])) rfl rfl (hb hby d26_1) uK kK) ?_
  rw [len_of S1 M1]
  show OGo p e below _ (s₁.setTop (mkF m 2 #[.val (.ref aV)] [(.int (1 : Int32))]))
  refine OGo.step (fun uK kK => X0.lookupswitchHit hx (g := (mkF m 2 #[.val (.ref aV)] [(.int (1 : Int32))])) rfl rfl (hb hby d26_2) (by decide) (a := 1) (off := 30) (by decide) (show (0 : Int) ≤ ((2 : Nat) : Int) + 30 by decide) uK kK) ?_
  show OGo p e below _ (s₁.setTop (mkF m 32 #[.val (.ref aV)] []))
  refine OGo.step (fun uK kK => XS.aloadN X0.here hx rfl (hb hby d26_32) rfl rfl kK) ?_
  show OGo p e below _ (s₁.setTop (mkF m 33 #[.val (.ref aV)] [(.ref aV)]))
  refine OGo.step (fun uK kK => XS.iconst X0.here hx rfl (hb hby d26_33) kK) ?_
  show OGo p e below _ (s₁.setTop (mkF m 34 #[.val (.ref aV)] [(.int (0 : Int32)), (.ref aV)]))
  obtain ⟨cl2, Ar2, q2, S2, M2, H2, G2⟩ := id Vb
  have hin2 : ¬ ((0 : Int32) < 0 ∨ cl2.slots.size ≤ ((0 : Int32)).toNatClampNeg) := inb_of S2 ⟨by decide, by decide⟩
  have hat2 : cl2.slots[((0 : Int32)).toNatClampNeg]? = some (.int b0) := H2.at hin2 rfl
  refine OGo.step (fun uK kK => X0.baloadBytes hx (j := (0 : Int32)) (v := (.int b0)) (by rw [e0]; exact Ar2.1) (State.isArrayOf_alike hZ.alike Ar2.2.1) Ar2.2.2 hin2 hat2 (g := (mkF m 34 #[.val (.ref aV)] [(.int (0 : Int32)), (.ref aV)])) rfl rfl (hb hby d26_34) uK kK) ?_
  show OGo p e below _ (s₁.setTop (mkF m 35 #[.val (.ref aV)] [(.int b0)]))
  refine OGo.step (fun uK kK => XS.sipush X0.here hx rfl (hb hby d26_35) kK) ?_
  show OGo p e below _ (s₁.setTop (mkF m 38 #[.val (.ref aV)] [(.int (255 : Int32)), (.int b0)]))
  refine OGo.step (fun uK kK => XS.iand X0.here hx rfl (hb hby d26_38) rfl kK) ?_
  show OGo p e below _ (s₁.setTop (mkF m 39 #[.val (.ref aV)] [(.int (b0 &&& (255 : Int32)))]))
  refine OGo.step (fun uK kK => XS.goto X0.here hx rfl (pc0 := 39) (pc' := 51) rfl (hb hby d26_39) (by decide) (by decide) kK) ?_
  show OGo p e below _ (s₁.setTop (mkF m 51 #[.val (.ref aV)] [(.int (b0 &&& (255 : Int32)))]))
  exact OGo.retI X0 hx Bd.notSynchronized Bd.returns (hb hby d26_51) (by decide) (by decide) (by show Qlh Z aV kV b0 h0 n0 _ s₁.heap _; rw [e0]; exact ⟨rfl, N0, rfl⟩)
theorem d24_0 : decode jdk_42_method_78_code 0 = .ok (.aload_n 0, 1) := by decide +kernel
theorem d24_1 : decode jdk_42_method_78_code 1 = .ok (.getfield 19, 3) := by decide +kernel
theorem d24_4 : decode jdk_42_method_78_code 4 = .ok (.istore_n 1, 1) := by decide +kernel
theorem d24_5 : decode jdk_42_method_78_code 5 = .ok (.iload_n 1, 1) := by decide +kernel
theorem d24_6 : decode jdk_42_method_78_code 6 = .ok (.ifCond .ne 52, 3) := by decide +kernel
theorem d24_9 : decode jdk_42_method_78_code 9 = .ok (.aload_n 0, 1) := by decide +kernel
theorem d24_10 : decode jdk_42_method_78_code 10 = .ok (.getfield 23, 3) := by decide +kernel
theorem d24_13 : decode jdk_42_method_78_code 13 = .ok (.ifCond .ne 45, 3) := by decide +kernel
theorem d24_16 : decode jdk_42_method_78_code 16 = .ok (.aload_n 0, 1) := by decide +kernel
theorem d24_17 : decode jdk_42_method_78_code 17 = .ok (.invokevirtual 492, 3) := by decide +kernel
theorem d24_20 : decode jdk_42_method_78_code 20 = .ok (.ifCond .eq 13, 3) := by decide +kernel
theorem d24_23 : decode jdk_42_method_78_code 23 = .ok (.aload_n 0, 1) := by decide +kernel
theorem d24_24 : decode jdk_42_method_78_code 24 = .ok (.getfield 9, 3) := by decide +kernel
theorem d24_27 : decode jdk_42_method_78_code 27 = .ok (.invokestatic 628, 3) := by decide +kernel
theorem d24_30 : decode jdk_42_method_78_code 30 = .ok (.goto 10, 3) := by decide +kernel
theorem d24_40 : decode jdk_42_method_78_code 40 = .ok (.istore_n 1, 1) := by decide +kernel
theorem d24_41 : decode jdk_42_method_78_code 41 = .ok (.iload_n 1, 1) := by decide +kernel
theorem d24_42 : decode jdk_42_method_78_code 42 = .ok (.ifCond .ne 11, 3) := by decide +kernel
theorem d24_45 : decode jdk_42_method_78_code 45 = .ok (.aload_n 0, 1) := by decide +kernel
theorem d24_46 : decode jdk_42_method_78_code 46 = .ok (.iconst 1, 1) := by decide +kernel
theorem d24_47 : decode jdk_42_method_78_code 47 = .ok (.putfield 23, 3) := by decide +kernel
theorem d24_50 : decode jdk_42_method_78_code 50 = .ok (.goto 8, 3) := by decide +kernel
theorem d24_53 : decode jdk_42_method_78_code 53 = .ok (.aload_n 0, 1) := by decide +kernel
theorem d24_54 : decode jdk_42_method_78_code 54 = .ok (.iload_n 1, 1) := by decide +kernel
theorem d24_55 : decode jdk_42_method_78_code 55 = .ok (.putfield 19, 3) := by decide +kernel
theorem d24_58 : decode jdk_42_method_78_code 58 = .ok (.iload_n 1, 1) := by decide +kernel
theorem d24_59 : decode jdk_42_method_78_code 59 = .ok (.ireturn, 1) := by decide +kernel
theorem pnhc : plainName "java/lang/String" = true := by first | (simp [plainName, overriddenIn]; done) | decide +kernel
theorem pdhc_0 : parseMethodDescriptor "()Z" = some ⟨[], some .boolean⟩ := by decide +kernel
theorem pdhc_1 : parseMethodDescriptor "([B)I" = some ⟨[(.array .byte)], some .int⟩ := by decide +kernel
theorem efhc (m : MethodId) (x0 : Addr) : entryFrame m #[(.ref x0)] 2 = mkF m 0 #[.val (.ref x0), .unset] [] := by first | (simp [entryFrame, mkF, argsToLocals, Value.category]; done) | rfl
def Qhc (Z : State) (a : Addr) (aV : Addr) (kV : ClassId) (b0 : Int32) (cs : Int32) (h0 : Heap) (n0 : Nat) (v : Option Value) (h : Heap) (L : List Loc) : Prop := ∃ hv : Int32, v = some (.int hv) ∧ Fr n0 L ∧ Keep h0 h [a]
set_option maxRecDepth 65536 in
set_option maxHeartbeats 40000000 in
theorem rmhc (l : Launch) (Z : State) (a0 : Array Value) (hw : ∀ d ∈ tables_1, d.before a0 Z = true) (ws : List Jvm.Cond) (a : Addr) (aV : Addr) (kV : ClassId) (b0 : Int32) (cs : Int32) (h0 : Heap) (n0 : Nat) (Z0 : n0 ≤ h0.size) (Fvalue : Fld Z h0 a "java/lang/String" "value" "[B" (.ref aV)) (Fcoder : Fld Z h0 a "java/lang/String" "coder" "B" (.int (0 : Int32))) (Fhash : Fld Z h0 a "java/lang/String" "hash" "I" (.int (0 : Int32))) (FhashIsZero : Fld Z h0 a "java/lang/String" "hashIsZero" "Z" (.int (0 : Int32))) (Vb : Arv Z h0 aV kV .byte (1 : Int32) [(.int b0)] (.int (0 : Int32))) (Ex : Exa Z h0 a "java/lang/String") (ga : n0 ≤ a) (neV : a ≠ aV) (SCS : Sta Z Z.heap "java/lang/String" "COMPACT_STRINGS" "Z" (.int cs)) (hcs : ¬ (cs = (0 : Int32))) (Od : Old Z n0 h0) :
    MetFree l (⟨"java/lang/String", "hashCode", "()I"⟩ : MethodName) (head1 (Jvm.Cond.code (⟨"java/lang/String", "hashCode", "()I"⟩ : MethodName) jdk_42_method_78_code 2 (some .int) :: ws) ({ frames := 1, cells := 0, slots := 0, locals := 12 } : Room)) (fun aQ UQ => aQ = #[(.ref a)] ∧ Z.Warmed39 UQ.vm ∧ UQ.heap = h0) (fun _ _ _ _ _ => True) (fun _ U o U' => ∃ v L, o = .returned v ∧ Qhc Z a aV kV b0 cs h0 n0 v U'.heap L ∧ FrameEnd U o U' L ({ frames := 1, cells := 0, slots := 0, locals := 12 } : Room).cells ({ frames := 1, cells := 0, slots := 0, locals := 12 } : Room).slots) := by
  refine MetFree.of_bodySF (plainFor_of_name pnhc) hisR ?_
  intro p e s m args below meth c s₁ Bd hml0 hP hK
  obtain ⟨rfl, hZ, hh⟩ := hP
  have hx := Bd.exec
  have hby := Bd.bytes
  have hml : c.maxLocals = 2 := hml0
  have hown : s.vm.findClass "java/lang/String" = some m.cls := findClass_of_methodNamed Bd.named
  have hnm := (name_of_methodNamed Bd.named Bd.method).1
  have X0 : Stand p l e ({ frames := 1, cells := 0, slots := 0, locals := 12 } : Room) s m #[(.ref a)] below meth c s₁ [] 0 0 := Stand.of_body Bd
  have e0 : s₁.heap = h0 := by rw [← hh, Bd.state]; rfl
  have N0 := Fr.nil n0
  show OGo p e below (OPost s (Qhc Z a aV kV b0 cs h0 n0) ({ frames := 1, cells := 0, slots := 0, locals := 12 } : Room).cells ({ frames := 1, cells := 0, slots := 0, locals := 12 } : Room).slots) (s₁.setTop (entryFrame m #[(.ref a)] 2))
  refine OGo.step (fun uK kK => castTop (efhc m a) kK) ?_
  show OGo p e below _ (s₁.setTop (mkF m 0 #[.val (.ref a), .unset] []))
  refine OGo.step (fun uK kK => XS.aloadN X0.here hx rfl (hb hby d24_0) rfl rfl kK) ?_
  show OGo p e below _ (s₁.setTop (mkF m 1 #[.val (.ref a), .unset] [(.ref a)]))
  obtain ⟨T1, X1, e1, st1⟩ := getF X0 hx hZ hown (host := "") (Or.inl (hw _ (List.mem_of_getElem? (i := 178) rfl))) Via.refl e0 Fhash (g := (mkF m 1 #[.val (.ref a), .unset] [(.ref a)])) rfl rfl (hb hby d24_1)
  refine OGo.step (fun uK kK => st1 uK kK) ?_
  show OGo p e below _ (T1.setTop (mkF m 4 #[.val (.ref a), .unset] [(.int (0 : Int32))]))
  refine OGo.step (fun uK kK => XS.istoreN X1.here hx rfl (hb hby d24_4) rfl (l' := #[.val (.ref a), .val (.int (0 : Int32))]) rfl kK) ?_
  show OGo p e below _ (T1.setTop (mkF m 5 #[.val (.ref a), .val (.int (0 : Int32))] []))
  refine OGo.step (fun uK kK => XS.iloadN X1.here hx rfl (hb hby d24_5) rfl kK) ?_
  show OGo p e below _ (T1.setTop (mkF m 6 #[.val (.ref a), .val (.int (0 : Int32))] [(.int (0 : Int32))]))
  have hc6 : (0 : Int32) = (0 : Int32) := by decide
  refine OGo.step (fun uK kK => XS.ifNo X1.here hx rfl (hb hby d24_6) rfl ((if0 _ _).trans (teq hc6).2) kK) ?_
  show OGo p e below _ (T1.setTop (mkF m 9 #[.val (.ref a), .val (.int (0 : Int32))] []))
  refine OGo.step (fun uK kK => XS.aloadN X1.here hx rfl (hb hby d24_9) rfl rfl kK) ?_
  show OGo p e below _ (T1.setTop (mkF m 10 #[.val (.ref a), .val (.int (0 : Int32))] [(.ref a)]))
  obtain ⟨T2, X2, e2, st2⟩ := getF X1 hx hZ hown (host := "") (Or.inl (hw _ (List.mem_of_getElem? (i := 180) rfl))) Via.refl e1 FhashIsZero (g := (mkF m 10 #[.val (.ref a), .val (.int (0 : Int32))] [(.ref a)])) rfl rfl (hb hby d24_10)
  refine OGo.step (fun uK kK => st2 uK kK) ?_
  show OGo p e below _ (T2.setTop (mkF m 13 #[.val (.ref a), .val (.int (0 : Int32))] [(.int (0 : Int32))]))
  have hc13 : (0 : Int32) = (0 : Int32) := by decide
  refine OGo.step (fun uK kK => XS.ifNo X2.here hx rfl (hb hby d24_13) rfl ((if0 _ _).trans (teq hc13).2) kK) ?_
  show OGo p e below _ (T2.setTop (mkF m 16 #[.val (.ref a), .val (.int (0 : Int32))] []))
  refine OGo.step (fun uK kK => XS.aloadN X2.here hx rfl (hb hby d24_16) rfl rfl kK) ?_
  show OGo p e below _ (T2.setTop (mkF m 17 #[.val (.ref a), .val (.int (0 : Int32))] [(.ref a)]))
  obtain ⟨cq3, kq3, q3a, q3b, q3c⟩ := isOf hZ e2 Ex
  obtain ⟨_, _, ⟨T3, Lq3, kq_3, nq_3⟩, -, X3, ⟨Lc3, hQ3, lq3, yq3, zq3⟩, st3⟩ := X2.virtualBack hx (y := (⟨"java/lang/String", "isLatin1", "()Z"⟩ : MethodName)) (z := (⟨"java/lang/String", "isLatin1", "()Z"⟩ : MethodName)) hown (mvT hZ (hw _ (List.mem_of_getElem? (i := 182) rfl))) (mvT hZ (hw _ (List.mem_of_getElem? (i := 183) rfl))) (notFace_of_selects (args := #[]) (mvT hZ (hw _ (List.mem_of_getElem? (i := 185) rfl)))) (mvT hZ (hw _ (List.mem_of_getElem? (i := 185) rfl))) (mvT hZ (hw _ (List.mem_of_getElem? (i := 184) rfl))) (by decide) (backOf (W := 0) (rmil l Z a0 hw [] a cs h0 n0 Z0 Fcoder SCS hcs Od) hZ (hw _ (List.mem_of_getElem? (i := 186) rfl)) (hw _ (List.mem_of_getElem? (i := 14) rfl)) (by decide) (by decide)) q3a q3c (g := (mkF m 17 #[.val (.ref a), .val (.int (0 : Int32))] [(.ref a)])) rfl (by rw [hml]; rfl) (Steps.refl _) (argsL := []) (rest := []) (lenOf pdhc_0 rfl) rfl (by show 2 * 0 + _ ≤ _; exact Nat.le_of_eq rfl) (hb hby d24_17) (fun _ _ => ⟨rfl, e2, (by decide : 0 + 0 ≤ _), (by decide : 0 + 0 ≤ _)⟩)
  dsimp only [Pt.U, Pt.locs, Pt.cells, Pt.slots] at X3 lq3 yq3 zq3 st3 hQ3
  subst lq3 yq3 zq3
  obtain ⟨rfl, Nq3, e3⟩ := hQ3
  have N3 := Fr.app N0 Nq3
  refine OGo.steps st3 ?_
  show OGo p e below _ (T3.setTop (mkF m 20 #[.val (.ref a), .val (.int (0 : Int32))] [(.int (1 : Int32))]))
  have hc20 : ¬ ((1 : Int32) = (0 : Int32)) := by decide
  refine OGo.step (fun uK kK => XS.ifNo X3.here hx rfl (hb hby d24_20) rfl ((if0 _ _).trans (feq hc20).1) kK) ?_
  show OGo p e below _ (T3.setTop (mkF m 23 #[.val (.ref a), .val (.int (0 : Int32))] []))
  refine OGo.step (fun uK kK => XS.aloadN X3.here hx rfl (hb hby d24_23) rfl rfl kK) ?_
  show OGo p e below _ (T3.setTop (mkF m 24 #[.val (.ref a), .val (.int (0 : Int32))] [(.ref a)]))
  obtain ⟨T4, X4, e4, st4⟩ := getF X3 hx hZ hown (host := "") (Or.inl (hw _ (List.mem_of_getElem? (i := 39) rfl))) Via.refl e3 Fvalue (g := (mkF m 24 #[.val (.ref a), .val (.int (0 : Int32))] [(.ref a)])) rfl rfl (hb hby d24_24)
  refine OGo.step (fun uK kK => st4 uK kK) ?_
  show OGo p e below _ (T4.setTop (mkF m 27 #[.val (.ref a), .val (.int (0 : Int32))] [(.ref aV)]))
  obtain ⟨_, _, ⟨T5, Lq5, kq_5, nq_5⟩, -, X5, ⟨Lc5, hQ5, lq5, yq5, zq5⟩, st5⟩ := Jvm.LawKit.callS X4 hx (y := (⟨"java/lang/StringLatin1", "hashCode", "([B)I"⟩ : MethodName)) hown (mvT hZ (hw _ (List.mem_of_getElem? (i := 187) rfl))) (mvT hZ (hw _ (List.mem_of_getElem? (i := 188) rfl))) (mvT hZ (hw _ (List.mem_of_getElem? (i := 189) rfl))) (mvT hZ (hw _ (List.mem_of_getElem? (i := 190) rfl))) (by decide) (backOf (W := 0) (rmlh l Z a0 hw [] aV kV b0 h0 n0 Z0 Vb) hZ (hw _ (List.mem_of_getElem? (i := 190) rfl)) (hw _ (List.mem_of_getElem? (i := 189) rfl)) (by decide) (by decide)) (g := (mkF m 27 #[.val (.ref a), .val (.int (0 : Int32))] [(.ref aV)])) rfl (by rw [hml]; rfl) (argsL := [(.ref aV)]) (rest := []) (lenOf pdhc_1 rfl) rfl (by show 2 * 0 + _ ≤ _; exact Nat.le_of_eq rfl) (hb hby d24_27) (fun _ _ => ⟨rfl, e4, (by decide : 0 + 0 ≤ _), (by decide : 0 + 0 ≤ _)⟩)
  dsimp only [Pt.U, Pt.locs, Pt.cells, Pt.slots] at X5 lq5 yq5 zq5 st5 hQ5
  subst lq5 yq5 zq5
  obtain ⟨rfl, Nq5, e5⟩ := hQ5
  have N5 := Fr.app N3 Nq5
  refine OGo.step (fun uK kK => st5 uK kK) ?_
  show OGo p e below _ (T5.setTop (mkF m 30 #[.val (.ref a), .val (.int (0 : Int32))] [(.int (b0 &&& (255 : Int32)))]))
  refine OGo.step (fun uK kK => XS.goto X5.here hx rfl (pc0 := 30) (pc' := 40) rfl (hb hby d24_30) (by decide) (by decide) kK) ?_
  show OGo p e below _ (T5.setTop (mkF m 40 #[.val (.ref a), .val (.int (0 : Int32))] [(.int (b0 &&& (255 : Int32)))]))
  obtain ⟨hv, ev_hv⟩ : ∃ z : Int32, z = (b0 &&& (255 : Int32)) := ⟨_, rfl⟩
  rw [← ev_hv]
  show OGo p e below _ (T5.setTop (mkF m 40 #[.val (.ref a), .val (.int (0 : Int32))] [(.int hv)]))
  refine OGo.step (fun uK kK => XS.istoreN X5.here hx rfl (hb hby d24_40) rfl (l' := #[.val (.ref a), .val (.int hv)]) rfl kK) ?_
  show OGo p e below _ (T5.setTop (mkF m 41 #[.val (.ref a), .val (.int hv)] []))
  refine OGo.step (fun uK kK => XS.iloadN X5.here hx rfl (hb hby d24_41) rfl kK) ?_
  show OGo p e below _ (T5.setTop (mkF m 42 #[.val (.ref a), .val (.int hv)] [(.int hv)]))
  by_cases hc42 : hv = (0 : Int32)
  · skip
    refine OGo.step (fun uK kK => XS.ifNo X5.here hx rfl (hb hby d24_42) rfl ((if0 _ _).trans (teq hc42).2) kK) ?_
    show OGo p e below _ (T5.setTop (mkF m 45 #[.val (.ref a), .val (.int hv)] []))
    refine OGo.step (fun uK kK => XS.aloadN X5.here hx rfl (hb hby d24_45) rfl rfl kK) ?_
    show OGo p e below _ (T5.setTop (mkF m 46 #[.val (.ref a), .val (.int hv)] [(.ref a)]))
    refine OGo.step (fun uK kK => XS.iconst X5.here hx rfl (hb hby d24_46) kK) ?_
    show OGo p e below _ (T5.setTop (mkF m 47 #[.val (.ref a), .val (.int hv)] [(.int (1 : Int32)), (.ref a)]))
    obtain ⟨T6, h6, X6, e6, W6, st6⟩ := putFN X5 hx hZ hown (hw _ (List.mem_of_getElem? (i := 180) rfl)) Via.refl e5 FhashIsZero Ex (Or.inl (hw _ (List.mem_of_getElem? (i := 181) rfl))) (hw _ (List.mem_of_getElem? (i := 13) rfl)) (ty := .boolean) (v' := (.int (nar .boolean (1 : Int32)))) (by decide) rfl (fits_nar_bool _) (g := (mkF m 47 #[.val (.ref a), .val (.int hv)] [(.int (1 : Int32)), (.ref a)])) rfl rfl (hb hby d24_47)
    have Fw6 := FhashIsZero.same W6
    have Fvalue_7 := (Fvalue.other W6 (Or.inr (slot_ne (Or.inr (hw _ (List.mem_of_getElem? (i := 40) rfl))) (Or.inl (hw _ (List.mem_of_getElem? (i := 181) rfl))) (by decide) (t := (.array .byte)) (t' := .boolean) (by decide) (by decide))))
    have Fcoder_8 := (Fcoder.other W6 (Or.inr (slot_ne (Or.inr (hw _ (List.mem_of_getElem? (i := 38) rfl))) (Or.inl (hw _ (List.mem_of_getElem? (i := 181) rfl))) (by decide) (t := .byte) (t' := .boolean) (by decide) (by decide))))
    have Fhash_9 := (Fhash.other W6 (Or.inr (slot_ne (Or.inl (hw _ (List.mem_of_getElem? (i := 179) rfl))) (Or.inl (hw _ (List.mem_of_getElem? (i := 181) rfl))) (by decide) (t := .int) (t' := .boolean) (by decide) (by decide))))
    have Vb_11 := (Vb.other W6 (Ne.symm neV))
    have Ex_12 := (Ex.wr W6)
    have ZS6 : n0 ≤ h6.size := Nat.le_trans Z0 (Keep.of_wr W6).1
    have KC6 : Keep h0 h6 [a] := (Keep.refl h0 [a]).wr W6 (Or.inl (List.mem_of_getElem? (i := 0) rfl))
    have N6 := Fr.snoc X6 N5 ga
    have Od6 := Od.wr W6 ga
    refine OGo.step (fun uK kK => st6 uK kK) ?_
    show OGo p e below _ (T6.setTop (mkF m 50 #[.val (.ref a), .val (.int hv)] []))
    refine OGo.step (fun uK kK => XS.goto X6.here hx rfl (pc0 := 50) (pc' := 58) rfl (hb hby d24_50) (by decide) (by decide) kK) ?_
    show OGo p e below _ (T6.setTop (mkF m 58 #[.val (.ref a), .val (.int hv)] []))
    refine OGo.step (fun uK kK => XS.iloadN X6.here hx rfl (hb hby d24_58) rfl kK) ?_
    show OGo p e below _ (T6.setTop (mkF m 59 #[.val (.ref a), .val (.int hv)] [(.int hv)]))
    exact OGo.retI X6 hx Bd.notSynchronized Bd.returns (hb hby d24_59) (by decide) (by decide) (by show Qhc Z a aV kV b0 cs h0 n0 _ T6.heap _; rw [e6]; exact ⟨hv, rfl, N6, KC6⟩)
  · skip
    refine OGo.step (fun uK kK => XS.ifYes X5.here hx rfl (pc0 := 42) (pc' := 53) rfl (hb hby d24_42) rfl ((if0 _ _).trans (feq hc42).2) (by decide) (by decide) kK) ?_
    show OGo p e below _ (T5.setTop (mkF m 53 #[.val (.ref a), .val (.int hv)] []))
    refine OGo.step (fun uK kK => XS.aloadN X5.here hx rfl (hb hby d24_53) rfl rfl kK) ?_
    show OGo p e below _ (T5.setTop (mkF m 54 #[.val (.ref a), .val (.int hv)] [(.ref a)]))
    refine OGo.step (fun uK kK => XS.iloadN X5.here hx rfl (hb hby d24_54) rfl kK) ?_
    show OGo p e below _ (T5.setTop (mkF m 55 #[.val (.ref a), .val (.int hv)] [(.int hv), (.ref a)]))
    obtain ⟨T13, h13, X13, e13, W13, st13⟩ := putF X5 hx hZ hown (host := "") (Or.inl (hw _ (List.mem_of_getElem? (i := 178) rfl))) Via.refl e5 Fhash Ex (Or.inl (hw _ (List.mem_of_getElem? (i := 179) rfl))) (hw _ (List.mem_of_getElem? (i := 13) rfl)) (ty := .int) (by decide) rfl rfl (g := (mkF m 55 #[.val (.ref a), .val (.int hv)] [(.int hv), (.ref a)])) rfl rfl (hb hby d24_55)
    have Fw13 := Fhash.same W13
    have Fvalue_14 := (Fvalue.other W13 (Or.inr (slot_ne (Or.inr (hw _ (List.mem_of_getElem? (i := 40) rfl))) (Or.inl (hw _ (List.mem_of_getElem? (i := 179) rfl))) (by decide) (t := (.array .byte)) (t' := .int) (by decide) (by decide))))
    have Fcoder_15 := (Fcoder.other W13 (Or.inr (slot_ne (Or.inr (hw _ (List.mem_of_getElem? (i := 38) rfl))) (Or.inl (hw _ (List.mem_of_getElem? (i := 179) rfl))) (by decide) (t := .byte) (t' := .int) (by decide) (by decide))))
    have FhashIsZero_17 := (FhashIsZero.other W13 (Or.inr (slot_ne (Or.inl (hw _ (List.mem_of_getElem? (i := 181) rfl))) (Or.inl (hw _ (List.mem_of_getElem? (i := 179) rfl))) (by decide) (t := .boolean) (t' := .int) (by decide) (by decide))))
    have Vb_18 := (Vb.other W13 (Ne.symm neV))
    have Ex_19 := (Ex.wr W13)
    have ZS13 : n0 ≤ h13.size := Nat.le_trans Z0 (Keep.of_wr W13).1
    have KC13 : Keep h0 h13 [a] := (Keep.refl h0 [a]).wr W13 (Or.inl (List.mem_of_getElem? (i := 0) rfl))
    have N13 := Fr.snoc X13 N5 ga
    have Od13 := Od.wr W13 ga
    refine OGo.step (fun uK kK => st13 uK kK) ?_
    show OGo p e below _ (T13.setTop (mkF m 58 #[.val (.ref a), .val (.int hv)] []))
    refine OGo.step (fun uK kK => XS.iloadN X13.here hx rfl (hb hby d24_58) rfl kK) ?_
    show OGo p e below _ (T13.setTop (mkF m 59 #[.val (.ref a), .val (.int hv)] [(.int hv)]))
    exact OGo.retI X13 hx Bd.notSynchronized Bd.returns (hb hby d24_59) (by decide) (by decide) (by show Qhc Z a aV kV b0 cs h0 n0 _ T13.heap _; rw [e13]; exact ⟨hv, rfl, N13, KC13⟩)
theorem d10_0 : decode jdk_96_method_17_code 0 = .ok (.getstatic 9, 3) := by decide +kernel
theorem d10_3 : decode jdk_96_method_17_code 3 = .ok (.areturn, 1) := by decide +kernel
theorem pnso : plainName "java/util/Set" = true := by first | (simp [plainName, overriddenIn]; done) | decide +kernel
theorem efso (m : MethodId)  : entryFrame m #[] 0 = mkF m 0 #[] [] := by first | (simp [entryFrame, mkF, argsToLocals, Value.category]; done) | rfl
def Qso (Z : State)  (aE : Addr) (h0 : Heap) (n0 : Nat) (v : Option Value) (h : Heap) (L : List Loc) : Prop := v = some (.ref aE) ∧ Fr n0 L ∧ h = h0
set_option maxRecDepth 65536 in
set_option maxHeartbeats 40000000 in
theorem rmso (l : Launch) (Z : State) (a0 : Array Value) (hw : ∀ d ∈ tables_1, d.before a0 Z = true) (ws : List Jvm.Cond)  (aE : Addr) (h0 : Heap) (n0 : Nat) (Z0 : n0 ≤ h0.size) (SES : Sta Z Z.heap "java/util/ImmutableCollections" "EMPTY_SET" "Ljava/util/ImmutableCollections$SetN;" (.ref aE)) (Od : Old Z n0 h0) :
    MetFree l (⟨"java/util/Set", "of", "()Ljava/util/Set;"⟩ : MethodName) (head1 (Jvm.Cond.code (⟨"java/util/Set", "of", "()Ljava/util/Set;"⟩ : MethodName) jdk_96_method_17_code 0 (some (.object "java/util/Set")) :: ws) ({ frames := 0, cells := 0, slots := 0, locals := 0 } : Room)) (fun aQ UQ => aQ = #[] ∧ Z.Warmed39 UQ.vm ∧ UQ.heap = h0) (fun _ _ _ _ _ => True) (fun _ U o U' => ∃ v L, o = .returned v ∧ Qso Z aE h0 n0 v U'.heap L ∧ FrameEnd U o U' L ({ frames := 0, cells := 0, slots := 0, locals := 0 } : Room).cells ({ frames := 0, cells := 0, slots := 0, locals := 0 } : Room).slots) := by
  refine MetFree.of_bodySF (plainFor_of_name pnso) hisR ?_
  intro p e s m args below meth c s₁ Bd hml0 hP hK
  obtain ⟨rfl, hZ, hh⟩ := hP
  have hx := Bd.exec
  have hby := Bd.bytes
  have hml : c.maxLocals = 0 := hml0
  have hown : s.vm.findClass "java/util/Set" = some m.cls := findClass_of_methodNamed Bd.named
  have hnm := (name_of_methodNamed Bd.named Bd.method).1
  have X0 : Stand p l e ({ frames := 0, cells := 0, slots := 0, locals := 0 } : Room) s m #[] below meth c s₁ [] 0 0 := Stand.of_body Bd
  have e0 : s₁.heap = h0 := by rw [← hh, Bd.state]; rfl
  have N0 := Fr.nil n0
  show OGo p e below (OPost s (Qso Z aE h0 n0) ({ frames := 0, cells := 0, slots := 0, locals := 0 } : Room).cells ({ frames := 0, cells := 0, slots := 0, locals := 0 } : Room).slots) (s₁.setTop (entryFrame m #[] 0))
  refine OGo.step (fun uK kK => castTop (efso m ) kK) ?_
  show OGo p e below _ (s₁.setTop (mkF m 0 #[] []))
  obtain ⟨T1, X1, e1, st1⟩ := getS2 X0 hx hZ hown (host := "") (Or.inl (hw _ (List.mem_of_getElem? (i := 66) rfl))) Via.refl e0 (SES.ext Od.2) (g := (mkF m 0 #[] [])) rfl (hb hby d10_0)
  refine OGo.step (fun uK kK => st1 uK kK) ?_
  show OGo p e below _ (T1.setTop (mkF m 3 #[] [(.ref aE)]))
  exact OGo.retR X1 hx Bd.notSynchronized Bd.returns rfl rfl (hb hby d10_3) (by decide) (by decide) (by show Qso Z aE h0 n0 _ T1.heap _; rw [e1]; exact ⟨rfl, N0, rfl⟩)
theorem d9_0 : decode prog_46_method_1_code 0 = .ok (.aload_n 0, 1) := by decide +kernel
theorem d9_1 : decode prog_46_method_1_code 1 = .ok (.invokespecial 1, 3) := by decide +kernel
theorem d9_4 : decode prog_46_method_1_code 4 = .ok (.aload_n 0, 1) := by decide +kernel
theorem d9_5 : decode prog_46_method_1_code 5 = .ok (.invokestatic 7, 3) := by decide +kernel
theorem d9_8 : decode prog_46_method_1_code 8 = .ok (.putfield 13, 3) := by decide +kernel
theorem d9_11 : decode prog_46_method_1_code 11 = .ok (.return_, 1) := by decide +kernel
theorem pnkb : plainName "com/example/graph_of_conflicts/graphofconflicts/engine/KeysByTable" = true := by first | (simp [plainName, overriddenIn]; done) | decide +kernel
theorem pdkb_0 : parseMethodDescriptor "()Ljava/util/Set;" = some ⟨[], some (.object "java/util/Set")⟩ := by decide +kernel
theorem efkb (m : MethodId) (x0 : Addr) : entryFrame m #[(.ref x0)] 1 = mkF m 0 #[.val (.ref x0)] [] := by first | (simp [entryFrame, mkF, argsToLocals, Value.category]; done) | rfl
def Qkb (Z : State) (a : Addr) (aE : Addr) (h0 : Heap) (n0 : Nat) (v : Option Value) (h : Heap) (L : List Loc) : Prop := v = none ∧ Fr n0 L ∧ Keep h0 h [a]
set_option maxRecDepth 65536 in
set_option maxHeartbeats 40000000 in
theorem rmkb (l : Launch) (Z : State) (a0 : Array Value) (hw : ∀ d ∈ tables_1, d.before a0 Z = true) (ws : List Jvm.Cond) (a : Addr) (aE : Addr) (h0 : Heap) (n0 : Nat) (Z0 : n0 ≤ h0.size) (F0 : Fld Z h0 a "com/example/graph_of_conflicts/graphofconflicts/engine/KeysByTable" "tables" "Ljava/util/Set;" .null) (Ex : Exa Z h0 a "com/example/graph_of_conflicts/graphofconflicts/engine/KeysByTable") (ga : n0 ≤ a) (SES : Sta Z Z.heap "java/util/ImmutableCollections" "EMPTY_SET" "Ljava/util/ImmutableCollections$SetN;" (.ref aE)) (Od : Old Z n0 h0) :
    MetFree l (⟨"com/example/graph_of_conflicts/graphofconflicts/engine/KeysByTable", "<init>", "()V"⟩ : MethodName) (head1 (Jvm.Cond.code (⟨"com/example/graph_of_conflicts/graphofconflicts/engine/KeysByTable", "<init>", "()V"⟩ : MethodName) prog_46_method_1_code 1 none :: ws) ({ frames := 1, cells := 0, slots := 0, locals := 12 } : Room)) (fun aQ UQ => aQ = #[(.ref a)] ∧ Z.Warmed39 UQ.vm ∧ UQ.heap = h0) (fun _ _ _ _ _ => True) (fun _ U o U' => ∃ v L, o = .returned v ∧ Qkb Z a aE h0 n0 v U'.heap L ∧ FrameEnd U o U' L ({ frames := 1, cells := 0, slots := 0, locals := 12 } : Room).cells ({ frames := 1, cells := 0, slots := 0, locals := 12 } : Room).slots) := by
  refine MetFree.of_bodySF (plainFor_of_name pnkb) hisR ?_
  intro p e s m args below meth c s₁ Bd hml0 hP hK
  obtain ⟨rfl, hZ, hh⟩ := hP
  have hx := Bd.exec
  have hby := Bd.bytes
  have hml : c.maxLocals = 1 := hml0
  have hown : s.vm.findClass "com/example/graph_of_conflicts/graphofconflicts/engine/KeysByTable" = some m.cls := findClass_of_methodNamed Bd.named
  have hnm := (name_of_methodNamed Bd.named Bd.method).1
  have X0 : Stand p l e ({ frames := 1, cells := 0, slots := 0, locals := 12 } : Room) s m #[(.ref a)] below meth c s₁ [] 0 0 := Stand.of_body Bd
  have e0 : s₁.heap = h0 := by rw [← hh, Bd.state]; rfl
  have N0 := Fr.nil n0
  show OGo p e below (OPost s (Qkb Z a aE h0 n0) ({ frames := 1, cells := 0, slots := 0, locals := 12 } : Room).cells ({ frames := 1, cells := 0, slots := 0, locals := 12 } : Room).slots) (s₁.setTop (entryFrame m #[(.ref a)] 1))
  refine OGo.step (fun uK kK => castTop (efkb m a) kK) ?_
  show OGo p e below _ (s₁.setTop (mkF m 0 #[.val (.ref a)] []))
  refine OGo.step (fun uK kK => XS.aloadN X0.here hx rfl (hb hby d9_0) rfl rfl kK) ?_
  show OGo p e below _ (s₁.setTop (mkF m 1 #[.val (.ref a)] [(.ref a)]))
  obtain ⟨T1, X1, e1, st1⟩ := initO X0 hx hZ hown (hw _ (List.mem_of_getElem? (i := 61) rfl)) (hw _ (List.mem_of_getElem? (i := 23) rfl)) (hw _ (List.mem_of_getElem? (i := 24) rfl)) e0 (g := (mkF m 1 #[.val (.ref a)] [(.ref a)])) rfl (by rw [hml]; rfl) rfl (hb hby d9_1) (by decide) (W := 0) (by show 2 * 0 + _ ≤ _; exact Nat.le_of_eq rfl) (by decide)
  refine OGo.step (fun uK kK => st1 uK kK) ?_
  show OGo p e below _ (T1.setTop (mkF m 4 #[.val (.ref a)] []))
  refine OGo.step (fun uK kK => XS.aloadN X1.here hx rfl (hb hby d9_4) rfl rfl kK) ?_
  show OGo p e below _ (T1.setTop (mkF m 5 #[.val (.ref a)] [(.ref a)]))
  obtain ⟨_, _, ⟨T2, Lq2, kq_2, nq_2⟩, -, X2, ⟨Lc2, hQ2, lq2, yq2, zq2⟩, st2⟩ := Jvm.LawKit.callS X1 hx (y := (⟨"java/util/Set", "of", "()Ljava/util/Set;"⟩ : MethodName)) hown (mvT hZ (hw _ (List.mem_of_getElem? (i := 62) rfl))) (mvT hZ (hw _ (List.mem_of_getElem? (i := 63) rfl))) (mvT hZ (hw _ (List.mem_of_getElem? (i := 64) rfl))) (mvT hZ (hw _ (List.mem_of_getElem? (i := 65) rfl))) (by decide) (backOf (W := 1) (rmso l Z a0 hw []  aE h0 n0 Z0 SES Od) hZ (hw _ (List.mem_of_getElem? (i := 65) rfl)) (hw _ (List.mem_of_getElem? (i := 64) rfl)) (by decide) (by decide)) (g := (mkF m 5 #[.val (.ref a)] [(.ref a)])) rfl (by rw [hml]; rfl) (argsL := []) (rest := [(.ref a)]) (lenOf pdkb_0 rfl) rfl (by show 2 * 0 + _ ≤ _; exact Nat.le_of_eq rfl) (hb hby d9_5) (fun _ _ => ⟨rfl, e1, (by decide : 0 + 0 ≤ _), (by decide : 0 + 0 ≤ _)⟩)
  dsimp only [Pt.U, Pt.locs, Pt.cells, Pt.slots] at X2 lq2 yq2 zq2 st2 hQ2
  subst lq2 yq2 zq2
  obtain ⟨rfl, Nq2, e2⟩ := hQ2
  have N2 := Fr.app N0 Nq2
  refine OGo.step (fun uK kK => st2 uK kK) ?_
  show OGo p e below _ (T2.setTop (mkF m 8 #[.val (.ref a)] [(.ref aE), (.ref a)]))
  obtain ⟨T3, h3, X3, e3, W3, st3⟩ := putF X2 hx hZ hown (host := "") (Or.inl (hw _ (List.mem_of_getElem? (i := 68) rfl))) Via.refl e2 F0 Ex (Or.inl (hw _ (List.mem_of_getElem? (i := 69) rfl))) (hw _ (List.mem_of_getElem? (i := 56) rfl)) (ty := (.object "java/util/Set")) (by decide) rfl rfl (g := (mkF m 8 #[.val (.ref a)] [(.ref aE), (.ref a)])) rfl rfl (hb hby d9_8)
  have Fw3 := F0.same W3
  have Ex_5 := (Ex.wr W3)
  have ZS3 : n0 ≤ h3.size := Nat.le_trans Z0 (Keep.of_wr W3).1
  have KC3 : Keep h0 h3 [a] := (Keep.refl h0 [a]).wr W3 (Or.inl (List.mem_of_getElem? (i := 0) rfl))
  have N3 := Fr.snoc X3 N2 ga
  have Od3 := Od.wr W3 ga
  refine OGo.step (fun uK kK => st3 uK kK) ?_
  show OGo p e below _ (T3.setTop (mkF m 11 #[.val (.ref a)] []))
  exact OGo.retV X3 hx Bd.notSynchronized Bd.returns (hb hby d9_11) (by decide) (by decide) (by show Qkb Z a aE h0 n0 _ T3.heap _; rw [e3]; exact ⟨rfl, N3, KC3⟩)
theorem d18_0 : decode jdk_118_method_6_code 0 = .ok (.fload_n 0, 1) := by decide +kernel
theorem d18_1 : decode jdk_118_method_6_code 1 = .ok (.fload_n 0, 1) := by decide +kernel
theorem d18_2 : decode jdk_118_method_6_code 2 = .ok (.fcmp .l, 1) := by decide +kernel
theorem d18_3 : decode jdk_118_method_6_code 3 = .ok (.ifCond .eq 7, 3) := by decide +kernel
theorem d18_10 : decode jdk_118_method_6_code 10 = .ok (.iconst 0, 1) := by decide +kernel
theorem d18_11 : decode jdk_118_method_6_code 11 = .ok (.ireturn, 1) := by decide +kernel
theorem pnnn : plainFor (⟨"java/lang/Float", "isNaN", "(F)Z"⟩ : MethodName) = true := by decide +kernel
theorem efnn (m : MethodId) (x0 : UInt32) : entryFrame m #[(.float x0)] 1 = mkF m 0 #[.val (.float x0)] [] := by first | (simp [entryFrame, mkF, argsToLocals, Value.category]; done) | rfl
def Qnn (Z : State)  (h0 : Heap) (n0 : Nat) (v : Option Value) (h : Heap) (L : List Loc) : Prop := v = some (.int (0 : Int32)) ∧ Fr n0 L ∧ h = h0
set_option maxRecDepth 65536 in
set_option maxHeartbeats 40000000 in
theorem rmnn (l : Launch) (Z : State) (a0 : Array Value) (hw : ∀ d ∈ tables_1, d.before a0 Z = true) (ws : List Jvm.Cond)  (h0 : Heap) (n0 : Nat) (Z0 : n0 ≤ h0.size) :
    MetFree l (⟨"java/lang/Float", "isNaN", "(F)Z"⟩ : MethodName) (head1 (Jvm.Cond.code (⟨"java/lang/Float", "isNaN", "(F)Z"⟩ : MethodName) jdk_118_method_6_code 1 (some .boolean) :: ws) ({ frames := 0, cells := 0, slots := 0, locals := 0 } : Room)) (fun aQ UQ => aQ = #[(.float (1061158912 : UInt32))] ∧ Z.Warmed39 UQ.vm ∧ UQ.heap = h0) (fun _ _ _ _ _ => True) (fun _ U o U' => ∃ v L, o = .returned v ∧ Qnn Z  h0 n0 v U'.heap L ∧ FrameEnd U o U' L ({ frames := 0, cells := 0, slots := 0, locals := 0 } : Room).cells ({ frames := 0, cells := 0, slots := 0, locals := 0 } : Room).slots) := by
  refine MetFree.of_bodySF pnnn hisR ?_
  intro p e s m args below meth c s₁ Bd hml0 hP hK
  obtain ⟨rfl, hZ, hh⟩ := hP
  have hx := Bd.exec
  have hby := Bd.bytes
  have hml : c.maxLocals = 1 := hml0
  have hown : s.vm.findClass "java/lang/Float" = some m.cls := findClass_of_methodNamed Bd.named
  have hnm := (name_of_methodNamed Bd.named Bd.method).1
  have X0 : Stand p l e ({ frames := 0, cells := 0, slots := 0, locals := 0 } : Room) s m #[(.float (1061158912 : UInt32))] below meth c s₁ [] 0 0 := Stand.of_body Bd
  have e0 : s₁.heap = h0 := by rw [← hh, Bd.state]; rfl
  have N0 := Fr.nil n0
  show OGo p e below (OPost s (Qnn Z  h0 n0) ({ frames := 0, cells := 0, slots := 0, locals := 0 } : Room).cells ({ frames := 0, cells := 0, slots := 0, locals := 0 } : Room).slots) (s₁.setTop (entryFrame m #[(.float (1061158912 : UInt32))] 1))
  refine OGo.step (fun uK kK => castTop (efnn m (1061158912 : UInt32)) kK) ?_
  show OGo p e below _ (s₁.setTop (mkF m 0 #[.val (.float (1061158912 : UInt32))] []))
  refine OGo.step (fun uK kK => XS.floadN X0.here hx rfl (hb hby d18_0) rfl kK) ?_
  show OGo p e below _ (s₁.setTop (mkF m 1 #[.val (.float (1061158912 : UInt32))] [(.float (1061158912 : UInt32))]))
  refine OGo.step (fun uK kK => XS.floadN X0.here hx rfl (hb hby d18_1) rfl kK) ?_
  show OGo p e below _ (s₁.setTop (mkF m 2 #[.val (.float (1061158912 : UInt32))] [(.float (1061158912 : UInt32)), (.float (1061158912 : UInt32))]))
  refine OGo.step (fun uK kK => XS.fcmpS (v := (0 : Int32)) X0.here hx rfl (hb hby d18_2) rfl (by decide +kernel) kK) ?_
  show OGo p e below _ (s₁.setTop (mkF m 3 #[.val (.float (1061158912 : UInt32))] [(.int (0 : Int32))]))
  have hc3 : (0 : Int32) = (0 : Int32) := by decide
  refine OGo.step (fun uK kK => XS.ifYes X0.here hx rfl (pc0 := 3) (pc' := 10) rfl (hb hby d18_3) rfl ((if0 _ _).trans (teq hc3).1) (by decide) (by decide) kK) ?_
  show OGo p e below _ (s₁.setTop (mkF m 10 #[.val (.float (1061158912 : UInt32))] []))
  refine OGo.step (fun uK kK => XS.iconst X0.here hx rfl (hb hby d18_10) kK) ?_
  show OGo p e below _ (s₁.setTop (mkF m 11 #[.val (.float (1061158912 : UInt32))] [(.int (0 : Int32))]))
  exact OGo.retN X0 hx Bd.notSynchronized (t := .boolean) Bd.returns (by simp) (hb hby d18_11) (by decide) (by decide) (by show Qnn Z  h0 n0 _ s₁.heap _; rw [e0]; exact ⟨by decide, N0, rfl⟩)
theorem d20_0 : decode jdk_33_method_47_code 0 = .ok (.iload_n 0, 1) := by decide +kernel
theorem d20_1 : decode jdk_33_method_47_code 1 = .ok (.ifCond .gt 14, 3) := by decide +kernel
theorem d20_15 : decode jdk_33_method_47_code 15 = .ok (.bipush 31, 2) := by decide +kernel
theorem d20_17 : decode jdk_33_method_47_code 17 = .ok (.istore_n 1, 1) := by decide +kernel
theorem d20_18 : decode jdk_33_method_47_code 18 = .ok (.iload_n 0, 1) := by decide +kernel
theorem d20_19 : decode jdk_33_method_47_code 19 = .ok (.ldc_w 264, 3) := by decide +kernel
theorem d20_22 : decode jdk_33_method_47_code 22 = .ok (.if_icmp .lt 11, 3) := by decide +kernel
theorem d20_33 : decode jdk_33_method_47_code 33 = .ok (.iload_n 0, 1) := by decide +kernel
theorem d20_34 : decode jdk_33_method_47_code 34 = .ok (.sipush 256, 3) := by decide +kernel
theorem d20_37 : decode jdk_33_method_47_code 37 = .ok (.if_icmp .lt 11, 3) := by decide +kernel
theorem d20_48 : decode jdk_33_method_47_code 48 = .ok (.iload_n 0, 1) := by decide +kernel
theorem d20_49 : decode jdk_33_method_47_code 49 = .ok (.bipush 16, 2) := by decide +kernel
theorem d20_51 : decode jdk_33_method_47_code 51 = .ok (.if_icmp .lt 10, 3) := by decide +kernel
theorem d20_61 : decode jdk_33_method_47_code 61 = .ok (.iload_n 0, 1) := by decide +kernel
theorem d20_62 : decode jdk_33_method_47_code 62 = .ok (.iconst 4, 1) := by decide +kernel
theorem d20_63 : decode jdk_33_method_47_code 63 = .ok (.if_icmp .lt 10, 3) := by decide +kernel
theorem d20_66 : decode jdk_33_method_47_code 66 = .ok (.iinc 1 (-2), 3) := by decide +kernel
theorem d20_69 : decode jdk_33_method_47_code 69 = .ok (.iload_n 0, 1) := by decide +kernel
theorem d20_70 : decode jdk_33_method_47_code 70 = .ok (.iconst 2, 1) := by decide +kernel
theorem d20_71 : decode jdk_33_method_47_code 71 = .ok (.iushr, 1) := by decide +kernel
theorem d20_72 : decode jdk_33_method_47_code 72 = .ok (.istore_n 0, 1) := by decide +kernel
theorem d20_73 : decode jdk_33_method_47_code 73 = .ok (.iload_n 1, 1) := by decide +kernel
theorem d20_74 : decode jdk_33_method_47_code 74 = .ok (.iload_n 0, 1) := by decide +kernel
theorem d20_75 : decode jdk_33_method_47_code 75 = .ok (.iconst 1, 1) := by decide +kernel
theorem d20_76 : decode jdk_33_method_47_code 76 = .ok (.iushr, 1) := by decide +kernel
theorem d20_77 : decode jdk_33_method_47_code 77 = .ok (.isub, 1) := by decide +kernel
theorem d20_78 : decode jdk_33_method_47_code 78 = .ok (.ireturn, 1) := by decide +kernel
theorem pnnz : plainName "java/lang/Integer" = true := by first | (simp [plainName, overriddenIn]; done) | decide +kernel
theorem efnz (m : MethodId) (x0 : Int32) : entryFrame m #[(.int x0)] 2 = mkF m 0 #[.val (.int x0), .unset] [] := by first | (simp [entryFrame, mkF, argsToLocals, Value.category]; done) | rfl
def Qnz (Z : State)  (h0 : Heap) (n0 : Nat) (v : Option Value) (h : Heap) (L : List Loc) : Prop := v = some (.int (28 : Int32)) ∧ Fr n0 L ∧ h = h0
set_option maxRecDepth 65536 in
set_option maxHeartbeats 40000000 in
theorem rmnz (l : Launch) (Z : State) (a0 : Array Value) (hw : ∀ d ∈ tables_1, d.before a0 Z = true) (ws : List Jvm.Cond)  (h0 : Heap) (n0 : Nat) (Z0 : n0 ≤ h0.size) :
    MetFree l (⟨"java/lang/Integer", "numberOfLeadingZeros", "(I)I"⟩ : MethodName) (head1 (Jvm.Cond.code (⟨"java/lang/Integer", "numberOfLeadingZeros", "(I)I"⟩ : MethodName) jdk_33_method_47_code 2 (some .int) :: ws) ({ frames := 0, cells := 0, slots := 0, locals := 0 } : Room)) (fun aQ UQ => aQ = #[(.int (15 : Int32))] ∧ Z.Warmed39 UQ.vm ∧ UQ.heap = h0) (fun _ _ _ _ _ => True) (fun _ U o U' => ∃ v L, o = .returned v ∧ Qnz Z  h0 n0 v U'.heap L ∧ FrameEnd U o U' L ({ frames := 0, cells := 0, slots := 0, locals := 0 } : Room).cells ({ frames := 0, cells := 0, slots := 0, locals := 0 } : Room).slots) := by
  refine MetFree.of_bodySF (plainFor_of_name pnnz) hisR ?_
  intro p e s m args below meth c s₁ Bd hml0 hP hK
  obtain ⟨rfl, hZ, hh⟩ := hP
  have hx := Bd.exec
  have hby := Bd.bytes
  have hml : c.maxLocals = 2 := hml0
  have hown : s.vm.findClass "java/lang/Integer" = some m.cls := findClass_of_methodNamed Bd.named
  have hnm := (name_of_methodNamed Bd.named Bd.method).1
  have X0 : Stand p l e ({ frames := 0, cells := 0, slots := 0, locals := 0 } : Room) s m #[(.int (15 : Int32))] below meth c s₁ [] 0 0 := Stand.of_body Bd
  have e0 : s₁.heap = h0 := by rw [← hh, Bd.state]; rfl
  have N0 := Fr.nil n0
  show OGo p e below (OPost s (Qnz Z  h0 n0) ({ frames := 0, cells := 0, slots := 0, locals := 0 } : Room).cells ({ frames := 0, cells := 0, slots := 0, locals := 0 } : Room).slots) (s₁.setTop (entryFrame m #[(.int (15 : Int32))] 2))
  refine OGo.step (fun uK kK => castTop (efnz m (15 : Int32)) kK) ?_
  show OGo p e below _ (s₁.setTop (mkF m 0 #[.val (.int (15 : Int32)), .unset] []))
  refine OGo.step (fun uK kK => XS.iloadN X0.here hx rfl (hb hby d20_0) rfl kK) ?_
  show OGo p e below _ (s₁.setTop (mkF m 1 #[.val (.int (15 : Int32)), .unset] [(.int (15 : Int32))]))
  have hc1 : (0 : Int32) < (15 : Int32) := by decide
  refine OGo.step (fun uK kK => XS.ifYes X0.here hx rfl (pc0 := 1) (pc' := 15) rfl (hb hby d20_1) rfl ((if0 _ _).trans (tlt hc1).2.2.1) (by decide) (by decide) kK) ?_
  show OGo p e below _ (s₁.setTop (mkF m 15 #[.val (.int (15 : Int32)), .unset] []))
  refine OGo.step (fun uK kK => XS.bipush X0.here hx rfl (hb hby d20_15) kK) ?_
  show OGo p e below _ (s₁.setTop (mkF m 17 #[.val (.int (15 : Int32)), .unset] [(.int (31 : Int32))]))
  refine OGo.step (fun uK kK => XS.istoreN X0.here hx rfl (hb hby d20_17) rfl (l' := #[.val (.int (15 : Int32)), .val (.int (31 : Int32))]) rfl kK) ?_
  show OGo p e below _ (s₁.setTop (mkF m 18 #[.val (.int (15 : Int32)), .val (.int (31 : Int32))] []))
  refine OGo.step (fun uK kK => XS.iloadN X0.here hx rfl (hb hby d20_18) rfl kK) ?_
  show OGo p e below _ (s₁.setTop (mkF m 19 #[.val (.int (15 : Int32)), .val (.int (31 : Int32))] [(.int (15 : Int32))]))
  refine OGo.step (fun uK kK => X0.ldcWI hx hown (mvT hZ (hw _ (List.mem_of_getElem? (i := 132) rfl))) rfl (hb hby d20_19) kK) ?_
  show OGo p e below _ (s₁.setTop (mkF m 22 #[.val (.int (15 : Int32)), .val (.int (31 : Int32))] [(.int (65536 : Int32)), (.int (15 : Int32))]))
  have hc22 : (15 : Int32) < (65536 : Int32) := by decide
  refine OGo.step (fun uK kK => XS.icmpYes X0.here hx rfl (pc0 := 22) (pc' := 33) rfl (hb hby d20_22) rfl (tlt hc22).1 (by decide) (by decide) kK) ?_
  show OGo p e below _ (s₁.setTop (mkF m 33 #[.val (.int (15 : Int32)), .val (.int (31 : Int32))] []))
  refine OGo.step (fun uK kK => XS.iloadN X0.here hx rfl (hb hby d20_33) rfl kK) ?_
  show OGo p e below _ (s₁.setTop (mkF m 34 #[.val (.int (15 : Int32)), .val (.int (31 : Int32))] [(.int (15 : Int32))]))
  refine OGo.step (fun uK kK => XS.sipush X0.here hx rfl (hb hby d20_34) kK) ?_
  show OGo p e below _ (s₁.setTop (mkF m 37 #[.val (.int (15 : Int32)), .val (.int (31 : Int32))] [(.int (256 : Int32)), (.int (15 : Int32))]))
  have hc37 : (15 : Int32) < (256 : Int32) := by decide
  refine OGo.step (fun uK kK => XS.icmpYes X0.here hx rfl (pc0 := 37) (pc' := 48) rfl (hb hby d20_37) rfl (tlt hc37).1 (by decide) (by decide) kK) ?_
  show OGo p e below _ (s₁.setTop (mkF m 48 #[.val (.int (15 : Int32)), .val (.int (31 : Int32))] []))
  refine OGo.step (fun uK kK => XS.iloadN X0.here hx rfl (hb hby d20_48) rfl kK) ?_
  show OGo p e below _ (s₁.setTop (mkF m 49 #[.val (.int (15 : Int32)), .val (.int (31 : Int32))] [(.int (15 : Int32))]))
  refine OGo.step (fun uK kK => XS.bipush X0.here hx rfl (hb hby d20_49) kK) ?_
  show OGo p e below _ (s₁.setTop (mkF m 51 #[.val (.int (15 : Int32)), .val (.int (31 : Int32))] [(.int (16 : Int32)), (.int (15 : Int32))]))
  have hc51 : (15 : Int32) < (16 : Int32) := by decide
  refine OGo.step (fun uK kK => XS.icmpYes X0.here hx rfl (pc0 := 51) (pc' := 61) rfl (hb hby d20_51) rfl (tlt hc51).1 (by decide) (by decide) kK) ?_
  show OGo p e below _ (s₁.setTop (mkF m 61 #[.val (.int (15 : Int32)), .val (.int (31 : Int32))] []))
  refine OGo.step (fun uK kK => XS.iloadN X0.here hx rfl (hb hby d20_61) rfl kK) ?_
  show OGo p e below _ (s₁.setTop (mkF m 62 #[.val (.int (15 : Int32)), .val (.int (31 : Int32))] [(.int (15 : Int32))]))
  refine OGo.step (fun uK kK => XS.iconst X0.here hx rfl (hb hby d20_62) kK) ?_
  show OGo p e below _ (s₁.setTop (mkF m 63 #[.val (.int (15 : Int32)), .val (.int (31 : Int32))] [(.int (4 : Int32)), (.int (15 : Int32))]))
  have hc63 : ¬ ((15 : Int32) < (4 : Int32)) := by decide
  refine OGo.step (fun uK kK => XS.icmpNo X0.here hx rfl (hb hby d20_63) rfl (flt hc63).1 kK) ?_
  show OGo p e below _ (s₁.setTop (mkF m 66 #[.val (.int (15 : Int32)), .val (.int (31 : Int32))] []))
  refine OGo.step (fun uK kK => XS.iinc X0.here hx rfl (hb hby d20_66) rfl (l' := #[.val (.int (15 : Int32)), .val (.int (29 : Int32))]) rfl kK) ?_
  show OGo p e below _ (s₁.setTop (mkF m 69 #[.val (.int (15 : Int32)), .val (.int (29 : Int32))] []))
  refine OGo.step (fun uK kK => XS.iloadN X0.here hx rfl (hb hby d20_69) rfl kK) ?_
  show OGo p e below _ (s₁.setTop (mkF m 70 #[.val (.int (15 : Int32)), .val (.int (29 : Int32))] [(.int (15 : Int32))]))
  refine OGo.step (fun uK kK => XS.iconst X0.here hx rfl (hb hby d20_70) kK) ?_
  show OGo p e below _ (s₁.setTop (mkF m 71 #[.val (.int (15 : Int32)), .val (.int (29 : Int32))] [(.int (2 : Int32)), (.int (15 : Int32))]))
  refine OGo.step (fun uK kK => XS.iushr X0.here hx rfl (hb hby d20_71) rfl kK) ?_
  show OGo p e below _ (s₁.setTop (mkF m 72 #[.val (.int (15 : Int32)), .val (.int (29 : Int32))] [(.int (((15 : Int32).toUInt32 >>> ((2 : Int32) &&& 31).toUInt32).toInt32))]))
  have ez1 : (((15 : Int32).toUInt32 >>> ((2 : Int32) &&& 31).toUInt32).toInt32) = (3 : Int32) := by decide
  rw [ez1]
  show OGo p e below _ (s₁.setTop (mkF m 72 #[.val (.int (15 : Int32)), .val (.int (29 : Int32))] [(.int (3 : Int32))]))
  refine OGo.step (fun uK kK => XS.istoreN X0.here hx rfl (hb hby d20_72) rfl (l' := #[.val (.int (3 : Int32)), .val (.int (29 : Int32))]) rfl kK) ?_
  show OGo p e below _ (s₁.setTop (mkF m 73 #[.val (.int (3 : Int32)), .val (.int (29 : Int32))] []))
  refine OGo.step (fun uK kK => XS.iloadN X0.here hx rfl (hb hby d20_73) rfl kK) ?_
  show OGo p e below _ (s₁.setTop (mkF m 74 #[.val (.int (3 : Int32)), .val (.int (29 : Int32))] [(.int (29 : Int32))]))
  refine OGo.step (fun uK kK => XS.iloadN X0.here hx rfl (hb hby d20_74) rfl kK) ?_
  show OGo p e below _ (s₁.setTop (mkF m 75 #[.val (.int (3 : Int32)), .val (.int (29 : Int32))] [(.int (3 : Int32)), (.int (29 : Int32))]))
  refine OGo.step (fun uK kK => XS.iconst X0.here hx rfl (hb hby d20_75) kK) ?_
  show OGo p e below _ (s₁.setTop (mkF m 76 #[.val (.int (3 : Int32)), .val (.int (29 : Int32))] [(.int (1 : Int32)), (.int (3 : Int32)), (.int (29 : Int32))]))
  refine OGo.step (fun uK kK => XS.iushr X0.here hx rfl (hb hby d20_76) rfl kK) ?_
  show OGo p e below _ (s₁.setTop (mkF m 77 #[.val (.int (3 : Int32)), .val (.int (29 : Int32))] [(.int (((3 : Int32).toUInt32 >>> ((1 : Int32) &&& 31).toUInt32).toInt32)), (.int (29 : Int32))]))
  have ez2 : (((3 : Int32).toUInt32 >>> ((1 : Int32) &&& 31).toUInt32).toInt32) = (1 : Int32) := by decide
  rw [ez2]
  show OGo p e below _ (s₁.setTop (mkF m 77 #[.val (.int (3 : Int32)), .val (.int (29 : Int32))] [(.int (1 : Int32)), (.int (29 : Int32))]))
  refine OGo.step (fun uK kK => XS.isub X0.here hx rfl (hb hby d20_77) rfl kK) ?_
  show OGo p e below _ (s₁.setTop (mkF m 78 #[.val (.int (3 : Int32)), .val (.int (29 : Int32))] [(.int ((29 : Int32) - (1 : Int32)))]))
  have ez3 : ((29 : Int32) - (1 : Int32)) = (28 : Int32) := by decide
  rw [ez3]
  show OGo p e below _ (s₁.setTop (mkF m 78 #[.val (.int (3 : Int32)), .val (.int (29 : Int32))] [(.int (28 : Int32))]))
  exact OGo.retI X0 hx Bd.notSynchronized Bd.returns (hb hby d20_78) (by decide) (by decide) (by show Qnz Z  h0 n0 _ s₁.heap _; rw [e0]; exact ⟨rfl, N0, rfl⟩)
theorem d19_0 : decode jdk_69_method_4_code 0 = .ok (.iconst (-1), 1) := by decide +kernel
theorem d19_1 : decode jdk_69_method_4_code 1 = .ok (.iload_n 0, 1) := by decide +kernel
theorem d19_2 : decode jdk_69_method_4_code 2 = .ok (.iconst 1, 1) := by decide +kernel
theorem d19_3 : decode jdk_69_method_4_code 3 = .ok (.isub, 1) := by decide +kernel
theorem d19_4 : decode jdk_69_method_4_code 4 = .ok (.invokestatic 34, 3) := by decide +kernel
theorem d19_7 : decode jdk_69_method_4_code 7 = .ok (.iushr, 1) := by decide +kernel
theorem d19_8 : decode jdk_69_method_4_code 8 = .ok (.istore_n 1, 1) := by decide +kernel
theorem d19_9 : decode jdk_69_method_4_code 9 = .ok (.iload_n 1, 1) := by decide +kernel
theorem d19_10 : decode jdk_69_method_4_code 10 = .ok (.ifCond .ge 7, 3) := by decide +kernel
theorem d19_17 : decode jdk_69_method_4_code 17 = .ok (.iload_n 1, 1) := by decide +kernel
theorem d19_18 : decode jdk_69_method_4_code 18 = .ok (.ldc 42, 2) := by decide +kernel
theorem d19_20 : decode jdk_69_method_4_code 20 = .ok (.if_icmp .lt 8, 3) := by decide +kernel
theorem d19_28 : decode jdk_69_method_4_code 28 = .ok (.iload_n 1, 1) := by decide +kernel
theorem d19_29 : decode jdk_69_method_4_code 29 = .ok (.iconst 1, 1) := by decide +kernel
theorem d19_30 : decode jdk_69_method_4_code 30 = .ok (.iadd, 1) := by decide +kernel
theorem d19_31 : decode jdk_69_method_4_code 31 = .ok (.ireturn, 1) := by decide +kernel
theorem pntz : plainName "java/util/HashMap" = true := by first | (simp [plainName, overriddenIn]; done) | decide +kernel
theorem pdtz_0 : parseMethodDescriptor "(I)I" = some ⟨[.int], some .int⟩ := by decide +kernel
theorem eftz (m : MethodId) (x0 : Int32) : entryFrame m #[(.int x0)] 2 = mkF m 0 #[.val (.int x0), .unset] [] := by first | (simp [entryFrame, mkF, argsToLocals, Value.category]; done) | rfl
def Qtz (Z : State)  (h0 : Heap) (n0 : Nat) (v : Option Value) (h : Heap) (L : List Loc) : Prop := v = some (.int (16 : Int32)) ∧ Fr n0 L ∧ h = h0
set_option maxRecDepth 65536 in
set_option maxHeartbeats 40000000 in
theorem rmtz (l : Launch) (Z : State) (a0 : Array Value) (hw : ∀ d ∈ tables_1, d.before a0 Z = true) (ws : List Jvm.Cond)  (h0 : Heap) (n0 : Nat) (Z0 : n0 ≤ h0.size) :
    MetFree l (⟨"java/util/HashMap", "tableSizeFor", "(I)I"⟩ : MethodName) (head1 (Jvm.Cond.code (⟨"java/util/HashMap", "tableSizeFor", "(I)I"⟩ : MethodName) jdk_69_method_4_code 2 (some .int) :: ws) ({ frames := 1, cells := 0, slots := 0, locals := 14 } : Room)) (fun aQ UQ => aQ = #[(.int (16 : Int32))] ∧ Z.Warmed39 UQ.vm ∧ UQ.heap = h0) (fun _ _ _ _ _ => True) (fun _ U o U' => ∃ v L, o = .returned v ∧ Qtz Z  h0 n0 v U'.heap L ∧ FrameEnd U o U' L ({ frames := 1, cells := 0, slots := 0, locals := 14 } : Room).cells ({ frames := 1, cells := 0, slots := 0, locals := 14 } : Room).slots) := by
  refine MetFree.of_bodySF (plainFor_of_name pntz) hisR ?_
  intro p e s m args below meth c s₁ Bd hml0 hP hK
  obtain ⟨rfl, hZ, hh⟩ := hP
  have hx := Bd.exec
  have hby := Bd.bytes
  have hml : c.maxLocals = 2 := hml0
  have hown : s.vm.findClass "java/util/HashMap" = some m.cls := findClass_of_methodNamed Bd.named
  have hnm := (name_of_methodNamed Bd.named Bd.method).1
  have X0 : Stand p l e ({ frames := 1, cells := 0, slots := 0, locals := 14 } : Room) s m #[(.int (16 : Int32))] below meth c s₁ [] 0 0 := Stand.of_body Bd
  have e0 : s₁.heap = h0 := by rw [← hh, Bd.state]; rfl
  have N0 := Fr.nil n0
  show OGo p e below (OPost s (Qtz Z  h0 n0) ({ frames := 1, cells := 0, slots := 0, locals := 14 } : Room).cells ({ frames := 1, cells := 0, slots := 0, locals := 14 } : Room).slots) (s₁.setTop (entryFrame m #[(.int (16 : Int32))] 2))
  refine OGo.step (fun uK kK => castTop (eftz m (16 : Int32)) kK) ?_
  show OGo p e below _ (s₁.setTop (mkF m 0 #[.val (.int (16 : Int32)), .unset] []))
  refine OGo.step (fun uK kK => XS.iconst X0.here hx rfl (hb hby d19_0) kK) ?_
  show OGo p e below _ (s₁.setTop (mkF m 1 #[.val (.int (16 : Int32)), .unset] [(.int (-1 : Int32))]))
  refine OGo.step (fun uK kK => XS.iloadN X0.here hx rfl (hb hby d19_1) rfl kK) ?_
  show OGo p e below _ (s₁.setTop (mkF m 2 #[.val (.int (16 : Int32)), .unset] [(.int (16 : Int32)), (.int (-1 : Int32))]))
  refine OGo.step (fun uK kK => XS.iconst X0.here hx rfl (hb hby d19_2) kK) ?_
  show OGo p e below _ (s₁.setTop (mkF m 3 #[.val (.int (16 : Int32)), .unset] [(.int (1 : Int32)), (.int (16 : Int32)), (.int (-1 : Int32))]))
  refine OGo.step (fun uK kK => XS.isub X0.here hx rfl (hb hby d19_3) rfl kK) ?_
  show OGo p e below _ (s₁.setTop (mkF m 4 #[.val (.int (16 : Int32)), .unset] [(.int ((16 : Int32) - (1 : Int32))), (.int (-1 : Int32))]))
  have ez1 : ((16 : Int32) - (1 : Int32)) = (15 : Int32) := by decide
  rw [ez1]
  show OGo p e below _ (s₁.setTop (mkF m 4 #[.val (.int (16 : Int32)), .unset] [(.int (15 : Int32)), (.int (-1 : Int32))]))
  obtain ⟨_, _, ⟨T2, Lq2, kq_2, nq_2⟩, -, X2, ⟨Lc2, hQ2, lq2, yq2, zq2⟩, st2⟩ := Jvm.LawKit.callS X0 hx (y := (⟨"java/lang/Integer", "numberOfLeadingZeros", "(I)I"⟩ : MethodName)) hown (mvT hZ (hw _ (List.mem_of_getElem? (i := 128) rfl))) (mvT hZ (hw _ (List.mem_of_getElem? (i := 129) rfl))) (mvT hZ (hw _ (List.mem_of_getElem? (i := 130) rfl))) (mvT hZ (hw _ (List.mem_of_getElem? (i := 131) rfl))) (by decide) (backOf (W := 1) (rmnz l Z a0 hw []   h0 n0 Z0 ) hZ (hw _ (List.mem_of_getElem? (i := 131) rfl)) (hw _ (List.mem_of_getElem? (i := 130) rfl)) (by decide) (by decide)) (g := (mkF m 4 #[.val (.int (16 : Int32)), .unset] [(.int (15 : Int32)), (.int (-1 : Int32))])) rfl (by rw [hml]; rfl) (argsL := [(.int (15 : Int32))]) (rest := [(.int (-1 : Int32))]) (lenOf pdtz_0 rfl) rfl (by show 2 * 0 + _ ≤ _; exact Nat.le_of_eq rfl) (hb hby d19_4) (fun _ _ => ⟨rfl, e0, (by decide : 0 + 0 ≤ _), (by decide : 0 + 0 ≤ _)⟩)
  dsimp only [Pt.U, Pt.locs, Pt.cells, Pt.slots] at X2 lq2 yq2 zq2 st2 hQ2
  subst lq2 yq2 zq2
  obtain ⟨rfl, Nq2, e2⟩ := hQ2
  have N2 := Fr.app N0 Nq2
  refine OGo.step (fun uK kK => st2 uK kK) ?_
  show OGo p e below _ (T2.setTop (mkF m 7 #[.val (.int (16 : Int32)), .unset] [(.int (28 : Int32)), (.int (-1 : Int32))]))
  refine OGo.step (fun uK kK => XS.iushr X2.here hx rfl (hb hby d19_7) rfl kK) ?_
  show OGo p e below _ (T2.setTop (mkF m 8 #[.val (.int (16 : Int32)), .unset] [(.int (((-1 : Int32).toUInt32 >>> ((28 : Int32) &&& 31).toUInt32).toInt32))]))
  have ez3 : (((-1 : Int32).toUInt32 >>> ((28 : Int32) &&& 31).toUInt32).toInt32) = (15 : Int32) := by decide
  rw [ez3]
  show OGo p e below _ (T2.setTop (mkF m 8 #[.val (.int (16 : Int32)), .unset] [(.int (15 : Int32))]))
  refine OGo.step (fun uK kK => XS.istoreN X2.here hx rfl (hb hby d19_8) rfl (l' := #[.val (.int (16 : Int32)), .val (.int (15 : Int32))]) rfl kK) ?_
  show OGo p e below _ (T2.setTop (mkF m 9 #[.val (.int (16 : Int32)), .val (.int (15 : Int32))] []))
  refine OGo.step (fun uK kK => XS.iloadN X2.here hx rfl (hb hby d19_9) rfl kK) ?_
  show OGo p e below _ (T2.setTop (mkF m 10 #[.val (.int (16 : Int32)), .val (.int (15 : Int32))] [(.int (15 : Int32))]))
  have hc10 : ¬ ((15 : Int32) < (0 : Int32)) := by decide
  refine OGo.step (fun uK kK => XS.ifYes X2.here hx rfl (pc0 := 10) (pc' := 17) rfl (hb hby d19_10) rfl ((if0 _ _).trans (flt hc10).2.1) (by decide) (by decide) kK) ?_
  show OGo p e below _ (T2.setTop (mkF m 17 #[.val (.int (16 : Int32)), .val (.int (15 : Int32))] []))
  refine OGo.step (fun uK kK => XS.iloadN X2.here hx rfl (hb hby d19_17) rfl kK) ?_
  show OGo p e below _ (T2.setTop (mkF m 18 #[.val (.int (16 : Int32)), .val (.int (15 : Int32))] [(.int (15 : Int32))]))
  refine OGo.step (fun uK kK => X2.ldcI hx hown (mvT hZ (hw _ (List.mem_of_getElem? (i := 118) rfl))) rfl (hb hby d19_18) kK) ?_
  show OGo p e below _ (T2.setTop (mkF m 20 #[.val (.int (16 : Int32)), .val (.int (15 : Int32))] [(.int (1073741824 : Int32)), (.int (15 : Int32))]))
  have hc20 : (15 : Int32) < (1073741824 : Int32) := by decide
  refine OGo.step (fun uK kK => XS.icmpYes X2.here hx rfl (pc0 := 20) (pc' := 28) rfl (hb hby d19_20) rfl (tlt hc20).1 (by decide) (by decide) kK) ?_
  show OGo p e below _ (T2.setTop (mkF m 28 #[.val (.int (16 : Int32)), .val (.int (15 : Int32))] []))
  refine OGo.step (fun uK kK => XS.iloadN X2.here hx rfl (hb hby d19_28) rfl kK) ?_
  show OGo p e below _ (T2.setTop (mkF m 29 #[.val (.int (16 : Int32)), .val (.int (15 : Int32))] [(.int (15 : Int32))]))
  refine OGo.step (fun uK kK => XS.iconst X2.here hx rfl (hb hby d19_29) kK) ?_
  show OGo p e below _ (T2.setTop (mkF m 30 #[.val (.int (16 : Int32)), .val (.int (15 : Int32))] [(.int (1 : Int32)), (.int (15 : Int32))]))
  refine OGo.step (fun uK kK => XS.iadd X2.here hx rfl (hb hby d19_30) rfl kK) ?_
  show OGo p e below _ (T2.setTop (mkF m 31 #[.val (.int (16 : Int32)), .val (.int (15 : Int32))] [(.int ((15 : Int32) + (1 : Int32)))]))
  have ez4 : ((15 : Int32) + (1 : Int32)) = (16 : Int32) := by decide
  rw [ez4]
  show OGo p e below _ (T2.setTop (mkF m 31 #[.val (.int (16 : Int32)), .val (.int (15 : Int32))] [(.int (16 : Int32))]))
  exact OGo.retI X2 hx Bd.notSynchronized Bd.returns (hb hby d19_31) (by decide) (by decide) (by show Qtz Z  h0 n0 _ T2.heap _; rw [e2]; exact ⟨rfl, N2, rfl⟩)
theorem d16_0 : decode jdk_69_method_5_code 0 = .ok (.aload_n 0, 1) := by decide +kernel
theorem d16_1 : decode jdk_69_method_5_code 1 = .ok (.invokespecial 43, 3) := by decide +kernel
theorem d16_4 : decode jdk_69_method_5_code 4 = .ok (.iload_n 1, 1) := by decide +kernel
theorem d16_5 : decode jdk_69_method_5_code 5 = .ok (.ifCond .ge 30, 3) := by decide +kernel
theorem d16_35 : decode jdk_69_method_5_code 35 = .ok (.iload_n 1, 1) := by decide +kernel
theorem d16_36 : decode jdk_69_method_5_code 36 = .ok (.ldc 42, 2) := by decide +kernel
theorem d16_38 : decode jdk_69_method_5_code 38 = .ok (.if_icmp .le 6, 3) := by decide +kernel
theorem d16_44 : decode jdk_69_method_5_code 44 = .ok (.fload_n 2, 1) := by decide +kernel
theorem d16_45 : decode jdk_69_method_5_code 45 = .ok (.fconst 0, 1) := by decide +kernel
theorem d16_46 : decode jdk_69_method_5_code 46 = .ok (.fcmp .g, 1) := by decide +kernel
theorem d16_47 : decode jdk_69_method_5_code 47 = .ok (.ifCond .le 10, 3) := by decide +kernel
theorem d16_50 : decode jdk_69_method_5_code 50 = .ok (.fload_n 2, 1) := by decide +kernel
theorem d16_51 : decode jdk_69_method_5_code 51 = .ok (.invokestatic 70, 3) := by decide +kernel
theorem d16_54 : decode jdk_69_method_5_code 54 = .ok (.ifCond .eq 30, 3) := by decide +kernel
theorem d16_84 : decode jdk_69_method_5_code 84 = .ok (.aload_n 0, 1) := by decide +kernel
theorem d16_85 : decode jdk_69_method_5_code 85 = .ok (.fload_n 2, 1) := by decide +kernel
theorem d16_86 : decode jdk_69_method_5_code 86 = .ok (.putfield 81, 3) := by decide +kernel
theorem d16_89 : decode jdk_69_method_5_code 89 = .ok (.aload_n 0, 1) := by decide +kernel
theorem d16_90 : decode jdk_69_method_5_code 90 = .ok (.iload_n 1, 1) := by decide +kernel
theorem d16_91 : decode jdk_69_method_5_code 91 = .ok (.invokestatic 85, 3) := by decide +kernel
theorem d16_94 : decode jdk_69_method_5_code 94 = .ok (.putfield 88, 3) := by decide +kernel
theorem d16_97 : decode jdk_69_method_5_code 97 = .ok (.return_, 1) := by decide +kernel
theorem pnhm : plainName "java/util/HashMap" = true := by first | (simp [plainName, overriddenIn]; done) | decide +kernel
theorem pdhm_0 : parseMethodDescriptor "()V" = some ⟨[], none⟩ := by decide +kernel
theorem pdhm_1 : parseMethodDescriptor "(F)Z" = some ⟨[.float], some .boolean⟩ := by decide +kernel
theorem pdhm_2 : parseMethodDescriptor "(I)I" = some ⟨[.int], some .int⟩ := by decide +kernel
theorem efhm (m : MethodId) (x0 : Addr) (x1 : Int32) (x2 : UInt32) : entryFrame m #[(.ref x0), (.int x1), (.float x2)] 3 = mkF m 0 #[.val (.ref x0), .val (.int x1), .val (.float x2)] [] := by first | (simp [entryFrame, mkF, argsToLocals, Value.category]; done) | rfl
def Qhm (Z : State) (a : Addr) (h0 : Heap) (n0 : Nat) (v : Option Value) (h : Heap) (L : List Loc) : Prop := v = none ∧ Fr n0 L ∧ Keep h0 h [a] ∧ Fld Z h a "java/util/LinkedHashMap" "putMode" "I" (.int (0 : Int32)) ∧ Fld Z h a "java/util/LinkedHashMap" "accessOrder" "Z" (.int (0 : Int32))
set_option maxRecDepth 65536 in
set_option maxHeartbeats 40000000 in
theorem rmhm (l : Launch) (Z : State) (a0 : Array Value) (hw : ∀ d ∈ tables_1, d.before a0 Z = true) (ws : List Jvm.Cond) (a : Addr) (h0 : Heap) (n0 : Nat) (Z0 : n0 ≤ h0.size) (F0 : Fld Z h0 a "java/util/HashMap" "loadFactor" "F" (.float (0 : UInt32))) (F1 : Fld Z h0 a "java/util/HashMap" "threshold" "I" (.int (0 : Int32))) (F2 : Fld Z h0 a "java/util/LinkedHashMap" "putMode" "I" (.int (0 : Int32))) (F3 : Fld Z h0 a "java/util/LinkedHashMap" "accessOrder" "Z" (.int (0 : Int32))) (Ex : Exa Z h0 a "java/util/LinkedHashMap") (ga : n0 ≤ a) :
    MetFree l (⟨"java/util/HashMap", "<init>", "(IF)V"⟩ : MethodName) (head1 (Jvm.Cond.code (⟨"java/util/HashMap", "<init>", "(IF)V"⟩ : MethodName) jdk_69_method_5_code 3 none :: ws) ({ frames := 2, cells := 0, slots := 0, locals := 28 } : Room)) (fun aQ UQ => aQ = #[(.ref a), (.int (16 : Int32)), (.float (1061158912 : UInt32))] ∧ Z.Warmed39 UQ.vm ∧ UQ.heap = h0) (fun _ _ _ _ _ => True) (fun _ U o U' => ∃ v L, o = .returned v ∧ Qhm Z a h0 n0 v U'.heap L ∧ FrameEnd U o U' L ({ frames := 2, cells := 0, slots := 0, locals := 28 } : Room).cells ({ frames := 2, cells := 0, slots := 0, locals := 28 } : Room).slots) := by
  refine MetFree.of_bodySF (plainFor_of_name pnhm) hisR ?_
  intro p e s m args below meth c s₁ Bd hml0 hP hK
  obtain ⟨rfl, hZ, hh⟩ := hP
  have hx := Bd.exec
  have hby := Bd.bytes
  have hml : c.maxLocals = 3 := hml0
  have hown : s.vm.findClass "java/util/HashMap" = some m.cls := findClass_of_methodNamed Bd.named
  have hnm := (name_of_methodNamed Bd.named Bd.method).1
  have X0 : Stand p l e ({ frames := 2, cells := 0, slots := 0, locals := 28 } : Room) s m #[(.ref a), (.int (16 : Int32)), (.float (1061158912 : UInt32))] below meth c s₁ [] 0 0 := Stand.of_body Bd
  have e0 : s₁.heap = h0 := by rw [← hh, Bd.state]; rfl
  have N0 := Fr.nil n0
  show OGo p e below (OPost s (Qhm Z a h0 n0) ({ frames := 2, cells := 0, slots := 0, locals := 28 } : Room).cells ({ frames := 2, cells := 0, slots := 0, locals := 28 } : Room).slots) (s₁.setTop (entryFrame m #[(.ref a), (.int (16 : Int32)), (.float (1061158912 : UInt32))] 3))
  refine OGo.step (fun uK kK => castTop (efhm m a (16 : Int32) (1061158912 : UInt32)) kK) ?_
  show OGo p e below _ (s₁.setTop (mkF m 0 #[.val (.ref a), .val (.int (16 : Int32)), .val (.float (1061158912 : UInt32))] []))
  refine OGo.step (fun uK kK => XS.aloadN X0.here hx rfl (hb hby d16_0) rfl rfl kK) ?_
  show OGo p e below _ (s₁.setTop (mkF m 1 #[.val (.ref a), .val (.int (16 : Int32)), .val (.float (1061158912 : UInt32))] [(.ref a)]))
  obtain ⟨_, _, ⟨T1, Lq1, kq_1, nq_1⟩, -, X1, ⟨Lc1, hQ1, lq1, yq1, zq1⟩, st1⟩ := X0.specialBack hx (y := (⟨"java/util/AbstractMap", "<init>", "()V"⟩ : MethodName)) rfl hown (mvT hZ (hw _ (List.mem_of_getElem? (i := 111) rfl))) (mvT hZ (hw _ (List.mem_of_getElem? (i := 112) rfl))) (mvT hZ (hw _ (List.mem_of_getElem? (i := 116) rfl))) (by decide) (backOf (W := 0) (rmam l Z a0 hw [] a  h0 n0 Z0 ) hZ (hw _ (List.mem_of_getElem? (i := 116) rfl)) (hw _ (List.mem_of_getElem? (i := 115) rfl)) (by decide) (by decide)) (g := (mkF m 1 #[.val (.ref a), .val (.int (16 : Int32)), .val (.float (1061158912 : UInt32))] [(.ref a)])) rfl (by rw [hml]; rfl) (Steps.refl _) (a := a) (argsL := []) (rest := []) (lenOf pdhm_0 rfl) rfl (by show 2 * 0 + _ ≤ _; exact Nat.le_of_eq rfl) (hb hby d16_1) (fun _ _ => ⟨rfl, e0, (by decide : 0 + 0 ≤ _), (by decide : 0 + 0 ≤ _)⟩)
  dsimp only [Pt.U, Pt.locs, Pt.cells, Pt.slots] at X1 lq1 yq1 zq1 st1 hQ1
  subst lq1 yq1 zq1
  obtain ⟨rfl, Nq1, e1⟩ := hQ1
  have N1 := Fr.app N0 Nq1
  refine OGo.steps st1 ?_
  show OGo p e below _ (T1.setTop (mkF m 4 #[.val (.ref a), .val (.int (16 : Int32)), .val (.float (1061158912 : UInt32))] []))
  refine OGo.step (fun uK kK => XS.iloadN X1.here hx rfl (hb hby d16_4) rfl kK) ?_
  show OGo p e below _ (T1.setTop (mkF m 5 #[.val (.ref a), .val (.int (16 : Int32)), .val (.float (1061158912 : UInt32))] [(.int (16 : Int32))]))
  have hc5 : ¬ ((16 : Int32) < (0 : Int32)) := by decide
  refine OGo.step (fun uK kK => XS.ifYes X1.here hx rfl (pc0 := 5) (pc' := 35) rfl (hb hby d16_5) rfl ((if0 _ _).trans (flt hc5).2.1) (by decide) (by decide) kK) ?_
  show OGo p e below _ (T1.setTop (mkF m 35 #[.val (.ref a), .val (.int (16 : Int32)), .val (.float (1061158912 : UInt32))] []))
  refine OGo.step (fun uK kK => XS.iloadN X1.here hx rfl (hb hby d16_35) rfl kK) ?_
  show OGo p e below _ (T1.setTop (mkF m 36 #[.val (.ref a), .val (.int (16 : Int32)), .val (.float (1061158912 : UInt32))] [(.int (16 : Int32))]))
  refine OGo.step (fun uK kK => X1.ldcI hx hown (mvT hZ (hw _ (List.mem_of_getElem? (i := 118) rfl))) rfl (hb hby d16_36) kK) ?_
  show OGo p e below _ (T1.setTop (mkF m 38 #[.val (.ref a), .val (.int (16 : Int32)), .val (.float (1061158912 : UInt32))] [(.int (1073741824 : Int32)), (.int (16 : Int32))]))
  have hc38 : ¬ ((1073741824 : Int32) < (16 : Int32)) := by decide
  refine OGo.step (fun uK kK => XS.icmpYes X1.here hx rfl (pc0 := 38) (pc' := 44) rfl (hb hby d16_38) rfl (flt hc38).2.2.2 (by decide) (by decide) kK) ?_
  show OGo p e below _ (T1.setTop (mkF m 44 #[.val (.ref a), .val (.int (16 : Int32)), .val (.float (1061158912 : UInt32))] []))
  refine OGo.step (fun uK kK => XS.floadN X1.here hx rfl (hb hby d16_44) rfl kK) ?_
  show OGo p e below _ (T1.setTop (mkF m 45 #[.val (.ref a), .val (.int (16 : Int32)), .val (.float (1061158912 : UInt32))] [(.float (1061158912 : UInt32))]))
  refine OGo.step (fun uK kK => XS.fconst0 X1.here hx rfl (hb hby d16_45) rfl kK) ?_
  show OGo p e below _ (T1.setTop (mkF m 46 #[.val (.ref a), .val (.int (16 : Int32)), .val (.float (1061158912 : UInt32))] [(.float (0 : UInt32)), (.float (1061158912 : UInt32))]))
  refine OGo.step (fun uK kK => XS.fcmpS (v := (1 : Int32)) X1.here hx rfl (hb hby d16_46) rfl (by decide +kernel) kK) ?_
  show OGo p e below _ (T1.setTop (mkF m 47 #[.val (.ref a), .val (.int (16 : Int32)), .val (.float (1061158912 : UInt32))] [(.int (1 : Int32))]))
  have hc47 : (0 : Int32) < (1 : Int32) := by decide
  refine OGo.step (fun uK kK => XS.ifNo X1.here hx rfl (hb hby d16_47) rfl ((if0 _ _).trans (tlt hc47).2.2.2) kK) ?_
  show OGo p e below _ (T1.setTop (mkF m 50 #[.val (.ref a), .val (.int (16 : Int32)), .val (.float (1061158912 : UInt32))] []))
  refine OGo.step (fun uK kK => XS.floadN X1.here hx rfl (hb hby d16_50) rfl kK) ?_
  show OGo p e below _ (T1.setTop (mkF m 51 #[.val (.ref a), .val (.int (16 : Int32)), .val (.float (1061158912 : UInt32))] [(.float (1061158912 : UInt32))]))
  obtain ⟨_, _, ⟨T2, Lq2, kq_2, nq_2⟩, -, X2, ⟨Lc2, hQ2, lq2, yq2, zq2⟩, st2⟩ := Jvm.LawKit.callS X1 hx (y := (⟨"java/lang/Float", "isNaN", "(F)Z"⟩ : MethodName)) hown (mvT hZ (hw _ (List.mem_of_getElem? (i := 119) rfl))) (mvT hZ (hw _ (List.mem_of_getElem? (i := 120) rfl))) (mvT hZ (hw _ (List.mem_of_getElem? (i := 121) rfl))) (mvT hZ (hw _ (List.mem_of_getElem? (i := 122) rfl))) (by decide) (backOf (W := 0) (rmnn l Z a0 hw []   h0 n0 Z0 ) hZ (hw _ (List.mem_of_getElem? (i := 122) rfl)) (hw _ (List.mem_of_getElem? (i := 121) rfl)) (by decide) (by decide)) (g := (mkF m 51 #[.val (.ref a), .val (.int (16 : Int32)), .val (.float (1061158912 : UInt32))] [(.float (1061158912 : UInt32))])) rfl (by rw [hml]; rfl) (argsL := [(.float (1061158912 : UInt32))]) (rest := []) (lenOf pdhm_1 rfl) rfl (by show 2 * 0 + _ ≤ _; exact Nat.le_of_eq rfl) (hb hby d16_51) (fun _ _ => ⟨rfl, e1, (by decide : 0 + 0 ≤ _), (by decide : 0 + 0 ≤ _)⟩)
  dsimp only [Pt.U, Pt.locs, Pt.cells, Pt.slots] at X2 lq2 yq2 zq2 st2 hQ2
  subst lq2 yq2 zq2
  obtain ⟨rfl, Nq2, e2⟩ := hQ2
  have N2 := Fr.app N1 Nq2
  refine OGo.step (fun uK kK => st2 uK kK) ?_
  show OGo p e below _ (T2.setTop (mkF m 54 #[.val (.ref a), .val (.int (16 : Int32)), .val (.float (1061158912 : UInt32))] [(.int (0 : Int32))]))
  have hc54 : (0 : Int32) = (0 : Int32) := by decide
  refine OGo.step (fun uK kK => XS.ifYes X2.here hx rfl (pc0 := 54) (pc' := 84) rfl (hb hby d16_54) rfl ((if0 _ _).trans (teq hc54).1) (by decide) (by decide) kK) ?_
  show OGo p e below _ (T2.setTop (mkF m 84 #[.val (.ref a), .val (.int (16 : Int32)), .val (.float (1061158912 : UInt32))] []))
  refine OGo.step (fun uK kK => XS.aloadN X2.here hx rfl (hb hby d16_84) rfl rfl kK) ?_
  show OGo p e below _ (T2.setTop (mkF m 85 #[.val (.ref a), .val (.int (16 : Int32)), .val (.float (1061158912 : UInt32))] [(.ref a)]))
  refine OGo.step (fun uK kK => XS.floadN X2.here hx rfl (hb hby d16_85) rfl kK) ?_
  show OGo p e below _ (T2.setTop (mkF m 86 #[.val (.ref a), .val (.int (16 : Int32)), .val (.float (1061158912 : UInt32))] [(.float (1061158912 : UInt32)), (.ref a)]))
  obtain ⟨T3, h3, X3, e3, W3, st3⟩ := putF X2 hx hZ hown (host := "") (Or.inl (hw _ (List.mem_of_getElem? (i := 123) rfl))) Via.refl e2 F0 Ex (Or.inr ⟨(hw _ (List.mem_of_getElem? (i := 124) rfl)), rfl, hnm⟩) (hw _ (List.mem_of_getElem? (i := 99) rfl)) (ty := .float) (by decide) rfl rfl (g := (mkF m 86 #[.val (.ref a), .val (.int (16 : Int32)), .val (.float (1061158912 : UInt32))] [(.float (1061158912 : UInt32)), (.ref a)])) rfl rfl (hb hby d16_86)
  have Fw3 := F0.same W3
  have F1_5 := (F1.other W3 (Or.inr (slot_ne (Or.inl (hw _ (List.mem_of_getElem? (i := 134) rfl))) (Or.inr (hw _ (List.mem_of_getElem? (i := 124) rfl))) (by decide) (t := .int) (t' := .float) (by decide) (by decide))))
  have F2_6 := (F2.other W3 (Or.inr (slot_ne (Or.inl (hw _ (List.mem_of_getElem? (i := 136) rfl))) (Or.inr (hw _ (List.mem_of_getElem? (i := 124) rfl))) (by decide) (t := .int) (t' := .float) (by decide) (by decide))))
  have F3_7 := (F3.other W3 (Or.inr (slot_ne (Or.inr (hw _ (List.mem_of_getElem? (i := 138) rfl))) (Or.inr (hw _ (List.mem_of_getElem? (i := 124) rfl))) (by decide) (t := .boolean) (t' := .float) (by decide) (by decide))))
  have Ex_8 := (Ex.wr W3)
  have ZS3 : n0 ≤ h3.size := Nat.le_trans Z0 (Keep.of_wr W3).1
  have KC3 : Keep h0 h3 [a] := (Keep.refl h0 [a]).wr W3 (Or.inl (List.mem_of_getElem? (i := 0) rfl))
  have N3 := Fr.snoc X3 N2 ga
  refine OGo.step (fun uK kK => st3 uK kK) ?_
  show OGo p e below _ (T3.setTop (mkF m 89 #[.val (.ref a), .val (.int (16 : Int32)), .val (.float (1061158912 : UInt32))] []))
  refine OGo.step (fun uK kK => XS.aloadN X3.here hx rfl (hb hby d16_89) rfl rfl kK) ?_
  show OGo p e below _ (T3.setTop (mkF m 90 #[.val (.ref a), .val (.int (16 : Int32)), .val (.float (1061158912 : UInt32))] [(.ref a)]))
  refine OGo.step (fun uK kK => XS.iloadN X3.here hx rfl (hb hby d16_90) rfl kK) ?_
  show OGo p e below _ (T3.setTop (mkF m 91 #[.val (.ref a), .val (.int (16 : Int32)), .val (.float (1061158912 : UInt32))] [(.int (16 : Int32)), (.ref a)]))
  obtain ⟨_, _, ⟨T9, Lq9, kq_9, nq_9⟩, -, X9, ⟨Lc9, hQ9, lq9, yq9, zq9⟩, st9⟩ := Jvm.LawKit.callS X3 hx (y := (⟨"java/util/HashMap", "tableSizeFor", "(I)I"⟩ : MethodName)) hown (mvT hZ (hw _ (List.mem_of_getElem? (i := 125) rfl))) (mvT hZ (hw _ (List.mem_of_getElem? (i := 126) rfl))) (mvT hZ (hw _ (List.mem_of_getElem? (i := 109) rfl))) (mvT hZ (hw _ (List.mem_of_getElem? (i := 127) rfl))) (by decide) (backOf (W := 1) (rmtz l Z a0 hw []   h3 n0 ZS3 ) hZ (hw _ (List.mem_of_getElem? (i := 127) rfl)) (hw _ (List.mem_of_getElem? (i := 109) rfl)) (by decide) (by decide)) (g := (mkF m 91 #[.val (.ref a), .val (.int (16 : Int32)), .val (.float (1061158912 : UInt32))] [(.int (16 : Int32)), (.ref a)])) rfl (by rw [hml]; rfl) (argsL := [(.int (16 : Int32))]) (rest := [(.ref a)]) (lenOf pdhm_2 rfl) rfl (by show 2 * 0 + _ ≤ _; exact Nat.le_of_eq rfl) (hb hby d16_91) (fun _ _ => ⟨rfl, e3, (by decide : 0 + 0 ≤ _), (by decide : 0 + 0 ≤ _)⟩)
  dsimp only [Pt.U, Pt.locs, Pt.cells, Pt.slots] at X9 lq9 yq9 zq9 st9 hQ9
  subst lq9 yq9 zq9
  obtain ⟨rfl, Nq9, e9⟩ := hQ9
  have N9 := Fr.app N3 Nq9
  refine OGo.step (fun uK kK => st9 uK kK) ?_
  show OGo p e below _ (T9.setTop (mkF m 94 #[.val (.ref a), .val (.int (16 : Int32)), .val (.float (1061158912 : UInt32))] [(.int (16 : Int32)), (.ref a)]))
  obtain ⟨T10, h10, X10, e10, W10, st10⟩ := putF X9 hx hZ hown (host := "") (Or.inl (hw _ (List.mem_of_getElem? (i := 133) rfl))) Via.refl e9 F1_5 Ex_8 (Or.inl (hw _ (List.mem_of_getElem? (i := 134) rfl))) (hw _ (List.mem_of_getElem? (i := 99) rfl)) (ty := .int) (by decide) rfl rfl (g := (mkF m 94 #[.val (.ref a), .val (.int (16 : Int32)), .val (.float (1061158912 : UInt32))] [(.int (16 : Int32)), (.ref a)])) rfl rfl (hb hby d16_94)
  have Fw10 := F1_5.same W10
  have F2_12 := (F2_6.other W10 (Or.inr (slot_ne (Or.inl (hw _ (List.mem_of_getElem? (i := 136) rfl))) (Or.inl (hw _ (List.mem_of_getElem? (i := 134) rfl))) (by decide) (t := .int) (t' := .int) (by decide) (by decide))))
  have F3_13 := (F3_7.other W10 (Or.inr (slot_ne (Or.inr (hw _ (List.mem_of_getElem? (i := 138) rfl))) (Or.inl (hw _ (List.mem_of_getElem? (i := 134) rfl))) (by decide) (t := .boolean) (t' := .int) (by decide) (by decide))))
  have Ex_14 := (Ex_8.wr W10)
  have Fw3_15 := (Fw3.other W10 (Or.inr (slot_ne (Or.inr (hw _ (List.mem_of_getElem? (i := 124) rfl))) (Or.inl (hw _ (List.mem_of_getElem? (i := 134) rfl))) (by decide) (t := .float) (t' := .int) (by decide) (by decide))))
  have ZS10 : n0 ≤ h10.size := Nat.le_trans ZS3 (Keep.of_wr W10).1
  have KC10 : Keep h0 h10 [a] := KC3.wr W10 (Or.inl (List.mem_of_getElem? (i := 0) rfl))
  have N10 := Fr.snoc X10 N9 ga
  refine OGo.step (fun uK kK => st10 uK kK) ?_
  show OGo p e below _ (T10.setTop (mkF m 97 #[.val (.ref a), .val (.int (16 : Int32)), .val (.float (1061158912 : UInt32))] []))
  exact OGo.retV X10 hx Bd.notSynchronized Bd.returns (hb hby d16_97) (by decide) (by decide) (by show Qhm Z a h0 n0 _ T10.heap _; rw [e10]; exact ⟨rfl, N10, KC10, F2_12, F3_13⟩)
theorem d15_0 : decode jdk_94_method_14_code 0 = .ok (.aload_n 0, 1) := by decide +kernel
theorem d15_1 : decode jdk_94_method_14_code 1 = .ok (.iload_n 1, 1) := by decide +kernel
theorem d15_2 : decode jdk_94_method_14_code 2 = .ok (.fload_n 2, 1) := by decide +kernel
theorem d15_3 : decode jdk_94_method_14_code 3 = .ok (.invokespecial 81, 3) := by decide +kernel
theorem d15_6 : decode jdk_94_method_14_code 6 = .ok (.aload_n 0, 1) := by decide +kernel
theorem d15_7 : decode jdk_94_method_14_code 7 = .ok (.iconst 0, 1) := by decide +kernel
theorem d15_8 : decode jdk_94_method_14_code 8 = .ok (.putfield 1, 3) := by decide +kernel
theorem d15_11 : decode jdk_94_method_14_code 11 = .ok (.aload_n 0, 1) := by decide +kernel
theorem d15_12 : decode jdk_94_method_14_code 12 = .ok (.iconst 0, 1) := by decide +kernel
theorem d15_13 : decode jdk_94_method_14_code 13 = .ok (.putfield 64, 3) := by decide +kernel
theorem d15_16 : decode jdk_94_method_14_code 16 = .ok (.return_, 1) := by decide +kernel
theorem pnlm : plainName "java/util/LinkedHashMap" = true := by first | (simp [plainName, overriddenIn]; done) | decide +kernel
theorem pdlm_0 : parseMethodDescriptor "(IF)V" = some ⟨[.int, .float], none⟩ := by decide +kernel
theorem eflm (m : MethodId) (x0 : Addr) (x1 : Int32) (x2 : UInt32) : entryFrame m #[(.ref x0), (.int x1), (.float x2)] 3 = mkF m 0 #[.val (.ref x0), .val (.int x1), .val (.float x2)] [] := by first | (simp [entryFrame, mkF, argsToLocals, Value.category]; done) | rfl
def Qlm (Z : State) (a : Addr) (h0 : Heap) (n0 : Nat) (v : Option Value) (h : Heap) (L : List Loc) : Prop := v = none ∧ Fr n0 L ∧ Keep h0 h [a]
set_option maxRecDepth 65536 in
set_option maxHeartbeats 40000000 in
theorem rmlm (l : Launch) (Z : State) (a0 : Array Value) (hw : ∀ d ∈ tables_1, d.before a0 Z = true) (ws : List Jvm.Cond) (a : Addr) (h0 : Heap) (n0 : Nat) (Z0 : n0 ≤ h0.size) (F0 : Fld Z h0 a "java/util/HashMap" "loadFactor" "F" (.float (0 : UInt32))) (F1 : Fld Z h0 a "java/util/HashMap" "threshold" "I" (.int (0 : Int32))) (F2 : Fld Z h0 a "java/util/LinkedHashMap" "putMode" "I" (.int (0 : Int32))) (F3 : Fld Z h0 a "java/util/LinkedHashMap" "accessOrder" "Z" (.int (0 : Int32))) (Ex : Exa Z h0 a "java/util/LinkedHashMap") (ga : n0 ≤ a) :
    MetFree l (⟨"java/util/LinkedHashMap", "<init>", "(IF)V"⟩ : MethodName) (head1 (Jvm.Cond.code (⟨"java/util/LinkedHashMap", "<init>", "(IF)V"⟩ : MethodName) jdk_94_method_14_code 3 none :: ws) ({ frames := 3, cells := 0, slots := 0, locals := 42 } : Room)) (fun aQ UQ => aQ = #[(.ref a), (.int (16 : Int32)), (.float (1061158912 : UInt32))] ∧ Z.Warmed39 UQ.vm ∧ UQ.heap = h0) (fun _ _ _ _ _ => True) (fun _ U o U' => ∃ v L, o = .returned v ∧ Qlm Z a h0 n0 v U'.heap L ∧ FrameEnd U o U' L ({ frames := 3, cells := 0, slots := 0, locals := 42 } : Room).cells ({ frames := 3, cells := 0, slots := 0, locals := 42 } : Room).slots) := by
  refine MetFree.of_bodySF (plainFor_of_name pnlm) hisR ?_
  intro p e s m args below meth c s₁ Bd hml0 hP hK
  obtain ⟨rfl, hZ, hh⟩ := hP
  have hx := Bd.exec
  have hby := Bd.bytes
  have hml : c.maxLocals = 3 := hml0
  have hown : s.vm.findClass "java/util/LinkedHashMap" = some m.cls := findClass_of_methodNamed Bd.named
  have hnm := (name_of_methodNamed Bd.named Bd.method).1
  have X0 : Stand p l e ({ frames := 3, cells := 0, slots := 0, locals := 42 } : Room) s m #[(.ref a), (.int (16 : Int32)), (.float (1061158912 : UInt32))] below meth c s₁ [] 0 0 := Stand.of_body Bd
  have e0 : s₁.heap = h0 := by rw [← hh, Bd.state]; rfl
  have N0 := Fr.nil n0
  show OGo p e below (OPost s (Qlm Z a h0 n0) ({ frames := 3, cells := 0, slots := 0, locals := 42 } : Room).cells ({ frames := 3, cells := 0, slots := 0, locals := 42 } : Room).slots) (s₁.setTop (entryFrame m #[(.ref a), (.int (16 : Int32)), (.float (1061158912 : UInt32))] 3))
  refine OGo.step (fun uK kK => castTop (eflm m a (16 : Int32) (1061158912 : UInt32)) kK) ?_
  show OGo p e below _ (s₁.setTop (mkF m 0 #[.val (.ref a), .val (.int (16 : Int32)), .val (.float (1061158912 : UInt32))] []))
  refine OGo.step (fun uK kK => XS.aloadN X0.here hx rfl (hb hby d15_0) rfl rfl kK) ?_
  show OGo p e below _ (s₁.setTop (mkF m 1 #[.val (.ref a), .val (.int (16 : Int32)), .val (.float (1061158912 : UInt32))] [(.ref a)]))
  refine OGo.step (fun uK kK => XS.iloadN X0.here hx rfl (hb hby d15_1) rfl kK) ?_
  show OGo p e below _ (s₁.setTop (mkF m 2 #[.val (.ref a), .val (.int (16 : Int32)), .val (.float (1061158912 : UInt32))] [(.int (16 : Int32)), (.ref a)]))
  refine OGo.step (fun uK kK => XS.floadN X0.here hx rfl (hb hby d15_2) rfl kK) ?_
  show OGo p e below _ (s₁.setTop (mkF m 3 #[.val (.ref a), .val (.int (16 : Int32)), .val (.float (1061158912 : UInt32))] [(.float (1061158912 : UInt32)), (.int (16 : Int32)), (.ref a)]))
  obtain ⟨_, _, ⟨T1, Lq1, kq_1, nq_1⟩, -, X1, ⟨Lc1, hQ1, lq1, yq1, zq1⟩, st1⟩ := X0.specialBack hx (y := (⟨"java/util/HashMap", "<init>", "(IF)V"⟩ : MethodName)) rfl hown (mvT hZ (hw _ (List.mem_of_getElem? (i := 105) rfl))) (mvT hZ (hw _ (List.mem_of_getElem? (i := 106) rfl))) (mvT hZ (hw _ (List.mem_of_getElem? (i := 110) rfl))) (by decide) (backOf (W := 0) (rmhm l Z a0 hw [] a  h0 n0 Z0 F0 F1 F2 F3 Ex ga) hZ (hw _ (List.mem_of_getElem? (i := 110) rfl)) (hw _ (List.mem_of_getElem? (i := 109) rfl)) (by decide) (by decide)) (g := (mkF m 3 #[.val (.ref a), .val (.int (16 : Int32)), .val (.float (1061158912 : UInt32))] [(.float (1061158912 : UInt32)), (.int (16 : Int32)), (.ref a)])) rfl (by rw [hml]; rfl) (Steps.refl _) (a := a) (argsL := [(.int (16 : Int32)), (.float (1061158912 : UInt32))]) (rest := []) (lenOf pdlm_0 rfl) rfl (by show 2 * 0 + _ ≤ _; exact Nat.le_of_eq rfl) (hb hby d15_3) (fun _ _ => ⟨rfl, e0, (by decide : 0 + 0 ≤ _), (by decide : 0 + 0 ≤ _)⟩)
  dsimp only [Pt.U, Pt.locs, Pt.cells, Pt.slots] at X1 lq1 yq1 zq1 st1 hQ1
  subst lq1 yq1 zq1
  obtain ⟨rfl, Nq1, K1, Fp1, Fo1⟩ := hQ1
  have Ex_6 := (Ex.keep K1)
  have ZS1 : n0 ≤ T1.heap.size := Nat.le_trans Z0 K1.1
  have KC1 : Keep h0 T1.heap [a] := (Keep.refl h0 [a]).trans K1 (allS (Or.inl (List.mem_of_getElem? (i := 0) rfl)) all0)
  have N1 := Fr.app N0 Nq1
  refine OGo.steps st1 ?_
  show OGo p e below _ (T1.setTop (mkF m 6 #[.val (.ref a), .val (.int (16 : Int32)), .val (.float (1061158912 : UInt32))] []))
  refine OGo.step (fun uK kK => XS.aloadN X1.here hx rfl (hb hby d15_6) rfl rfl kK) ?_
  show OGo p e below _ (T1.setTop (mkF m 7 #[.val (.ref a), .val (.int (16 : Int32)), .val (.float (1061158912 : UInt32))] [(.ref a)]))
  refine OGo.step (fun uK kK => XS.iconst X1.here hx rfl (hb hby d15_7) kK) ?_
  show OGo p e below _ (T1.setTop (mkF m 8 #[.val (.ref a), .val (.int (16 : Int32)), .val (.float (1061158912 : UInt32))] [(.int (0 : Int32)), (.ref a)]))
  obtain ⟨T7, h7, X7, e7, W7, st7⟩ := putF X1 hx hZ hown (host := "") (Or.inl (hw _ (List.mem_of_getElem? (i := 135) rfl))) Via.refl rfl Fp1 Ex_6 (Or.inl (hw _ (List.mem_of_getElem? (i := 136) rfl))) (hw _ (List.mem_of_getElem? (i := 99) rfl)) (ty := .int) (by decide) rfl rfl (g := (mkF m 8 #[.val (.ref a), .val (.int (16 : Int32)), .val (.float (1061158912 : UInt32))] [(.int (0 : Int32)), (.ref a)])) rfl rfl (hb hby d15_8)
  have Fw7 := Fp1.same W7
  have Ex_8 := (Ex_6.wr W7)
  have Fo1_10 := (Fo1.other W7 (Or.inr (slot_ne (Or.inr (hw _ (List.mem_of_getElem? (i := 138) rfl))) (Or.inl (hw _ (List.mem_of_getElem? (i := 136) rfl))) (by decide) (t := .boolean) (t' := .int) (by decide) (by decide))))
  have ZS7 : n0 ≤ h7.size := Nat.le_trans ZS1 (Keep.of_wr W7).1
  have KC7 : Keep h0 h7 [a] := KC1.wr W7 (Or.inl (List.mem_of_getElem? (i := 0) rfl))
  have N7 := Fr.snoc X7 N1 ga
  refine OGo.step (fun uK kK => st7 uK kK) ?_
  show OGo p e below _ (T7.setTop (mkF m 11 #[.val (.ref a), .val (.int (16 : Int32)), .val (.float (1061158912 : UInt32))] []))
  refine OGo.step (fun uK kK => XS.aloadN X7.here hx rfl (hb hby d15_11) rfl rfl kK) ?_
  show OGo p e below _ (T7.setTop (mkF m 12 #[.val (.ref a), .val (.int (16 : Int32)), .val (.float (1061158912 : UInt32))] [(.ref a)]))
  refine OGo.step (fun uK kK => XS.iconst X7.here hx rfl (hb hby d15_12) kK) ?_
  show OGo p e below _ (T7.setTop (mkF m 13 #[.val (.ref a), .val (.int (16 : Int32)), .val (.float (1061158912 : UInt32))] [(.int (0 : Int32)), (.ref a)]))
  obtain ⟨T11, h11, X11, e11, W11, st11⟩ := putFN X7 hx hZ hown (hw _ (List.mem_of_getElem? (i := 137) rfl)) Via.refl e7 Fo1_10 Ex_8 (Or.inr ⟨(hw _ (List.mem_of_getElem? (i := 138) rfl)), rfl, hnm⟩) (hw _ (List.mem_of_getElem? (i := 99) rfl)) (ty := .boolean) (v' := (.int (nar .boolean (0 : Int32)))) (by decide) rfl (fits_nar_bool _) (g := (mkF m 13 #[.val (.ref a), .val (.int (16 : Int32)), .val (.float (1061158912 : UInt32))] [(.int (0 : Int32)), (.ref a)])) rfl rfl (hb hby d15_13)
  have Fw11 := Fo1_10.same W11
  have Ex_12 := (Ex_8.wr W11)
  have Fw7_14 := (Fw7.other W11 (Or.inr (slot_ne (Or.inl (hw _ (List.mem_of_getElem? (i := 136) rfl))) (Or.inr (hw _ (List.mem_of_getElem? (i := 138) rfl))) (by decide) (t := .int) (t' := .boolean) (by decide) (by decide))))
  have ZS11 : n0 ≤ h11.size := Nat.le_trans ZS7 (Keep.of_wr W11).1
  have KC11 : Keep h0 h11 [a] := KC7.wr W11 (Or.inl (List.mem_of_getElem? (i := 0) rfl))
  have N11 := Fr.snoc X11 N7 ga
  refine OGo.step (fun uK kK => st11 uK kK) ?_
  show OGo p e below _ (T11.setTop (mkF m 16 #[.val (.ref a), .val (.int (16 : Int32)), .val (.float (1061158912 : UInt32))] []))
  exact OGo.retV X11 hx Bd.notSynchronized Bd.returns (hb hby d15_16) (by decide) (by decide) (by show Qlm Z a h0 n0 _ T11.heap _; rw [e11]; exact ⟨rfl, N11, KC11⟩)
theorem d23_0 : decode jdk_69_method_7_code 0 = .ok (.aload_n 0, 1) := by decide +kernel
theorem d23_1 : decode jdk_69_method_7_code 1 = .ok (.invokespecial 43, 3) := by decide +kernel
theorem d23_4 : decode jdk_69_method_7_code 4 = .ok (.aload_n 0, 1) := by decide +kernel
theorem d23_5 : decode jdk_69_method_7_code 5 = .ok (.ldc 92, 2) := by decide +kernel
theorem d23_7 : decode jdk_69_method_7_code 7 = .ok (.putfield 81, 3) := by decide +kernel
theorem d23_10 : decode jdk_69_method_7_code 10 = .ok (.return_, 1) := by decide +kernel
theorem pnhn : plainName "java/util/HashMap" = true := by first | (simp [plainName, overriddenIn]; done) | decide +kernel
theorem pdhn_0 : parseMethodDescriptor "()V" = some ⟨[], none⟩ := by decide +kernel
theorem efhn (m : MethodId) (x0 : Addr) : entryFrame m #[(.ref x0)] 1 = mkF m 0 #[.val (.ref x0)] [] := by first | (simp [entryFrame, mkF, argsToLocals, Value.category]; done) | rfl
def Qhn (Z : State) (a : Addr) (h0 : Heap) (n0 : Nat) (v : Option Value) (h : Heap) (L : List Loc) : Prop := v = none ∧ Fr n0 L ∧ Keep h0 h [a] ∧ Fld Z h a "java/util/LinkedHashMap" "putMode" "I" (.int (0 : Int32)) ∧ Fld Z h a "java/util/LinkedHashMap" "accessOrder" "Z" (.int (0 : Int32))
set_option maxRecDepth 65536 in
set_option maxHeartbeats 40000000 in
theorem rmhn (l : Launch) (Z : State) (a0 : Array Value) (hw : ∀ d ∈ tables_1, d.before a0 Z = true) (ws : List Jvm.Cond) (a : Addr) (h0 : Heap) (n0 : Nat) (Z0 : n0 ≤ h0.size) (F0 : Fld Z h0 a "java/util/HashMap" "loadFactor" "F" (.float (0 : UInt32))) (F1 : Fld Z h0 a "java/util/HashMap" "threshold" "I" (.int (0 : Int32))) (F2 : Fld Z h0 a "java/util/LinkedHashMap" "putMode" "I" (.int (0 : Int32))) (F3 : Fld Z h0 a "java/util/LinkedHashMap" "accessOrder" "Z" (.int (0 : Int32))) (Ex : Exa Z h0 a "java/util/LinkedHashMap") (ga : n0 ≤ a) :
    MetFree l (⟨"java/util/HashMap", "<init>", "()V"⟩ : MethodName) (head1 (Jvm.Cond.code (⟨"java/util/HashMap", "<init>", "()V"⟩ : MethodName) jdk_69_method_7_code 1 none :: ws) ({ frames := 2, cells := 0, slots := 0, locals := 24 } : Room)) (fun aQ UQ => aQ = #[(.ref a)] ∧ Z.Warmed39 UQ.vm ∧ UQ.heap = h0) (fun _ _ _ _ _ => True) (fun _ U o U' => ∃ v L, o = .returned v ∧ Qhn Z a h0 n0 v U'.heap L ∧ FrameEnd U o U' L ({ frames := 2, cells := 0, slots := 0, locals := 24 } : Room).cells ({ frames := 2, cells := 0, slots := 0, locals := 24 } : Room).slots) := by
  refine MetFree.of_bodySF (plainFor_of_name pnhn) hisR ?_
  intro p e s m args below meth c s₁ Bd hml0 hP hK
  obtain ⟨rfl, hZ, hh⟩ := hP
  have hx := Bd.exec
  have hby := Bd.bytes
  have hml : c.maxLocals = 1 := hml0
  have hown : s.vm.findClass "java/util/HashMap" = some m.cls := findClass_of_methodNamed Bd.named
  have hnm := (name_of_methodNamed Bd.named Bd.method).1
  have X0 : Stand p l e ({ frames := 2, cells := 0, slots := 0, locals := 24 } : Room) s m #[(.ref a)] below meth c s₁ [] 0 0 := Stand.of_body Bd
  have e0 : s₁.heap = h0 := by rw [← hh, Bd.state]; rfl
  have N0 := Fr.nil n0
  show OGo p e below (OPost s (Qhn Z a h0 n0) ({ frames := 2, cells := 0, slots := 0, locals := 24 } : Room).cells ({ frames := 2, cells := 0, slots := 0, locals := 24 } : Room).slots) (s₁.setTop (entryFrame m #[(.ref a)] 1))
  refine OGo.step (fun uK kK => castTop (efhn m a) kK) ?_
  show OGo p e below _ (s₁.setTop (mkF m 0 #[.val (.ref a)] []))
  refine OGo.step (fun uK kK => XS.aloadN X0.here hx rfl (hb hby d23_0) rfl rfl kK) ?_
  show OGo p e below _ (s₁.setTop (mkF m 1 #[.val (.ref a)] [(.ref a)]))
  obtain ⟨_, _, ⟨T1, Lq1, kq_1, nq_1⟩, -, X1, ⟨Lc1, hQ1, lq1, yq1, zq1⟩, st1⟩ := X0.specialBack hx (y := (⟨"java/util/AbstractMap", "<init>", "()V"⟩ : MethodName)) rfl hown (mvT hZ (hw _ (List.mem_of_getElem? (i := 111) rfl))) (mvT hZ (hw _ (List.mem_of_getElem? (i := 112) rfl))) (mvT hZ (hw _ (List.mem_of_getElem? (i := 116) rfl))) (by decide) (backOf (W := 0) (rmam l Z a0 hw [] a  h0 n0 Z0 ) hZ (hw _ (List.mem_of_getElem? (i := 116) rfl)) (hw _ (List.mem_of_getElem? (i := 115) rfl)) (by decide) (by decide)) (g := (mkF m 1 #[.val (.ref a)] [(.ref a)])) rfl (by rw [hml]; rfl) (Steps.refl _) (a := a) (argsL := []) (rest := []) (lenOf pdhn_0 rfl) rfl (by show 2 * 0 + _ ≤ _; exact Nat.le_of_eq rfl) (hb hby d23_1) (fun _ _ => ⟨rfl, e0, (by decide : 0 + 0 ≤ _), (by decide : 0 + 0 ≤ _)⟩)
  dsimp only [Pt.U, Pt.locs, Pt.cells, Pt.slots] at X1 lq1 yq1 zq1 st1 hQ1
  subst lq1 yq1 zq1
  obtain ⟨rfl, Nq1, e1⟩ := hQ1
  have N1 := Fr.app N0 Nq1
  refine OGo.steps st1 ?_
  show OGo p e below _ (T1.setTop (mkF m 4 #[.val (.ref a)] []))
  refine OGo.step (fun uK kK => XS.aloadN X1.here hx rfl (hb hby d23_4) rfl rfl kK) ?_
  show OGo p e below _ (T1.setTop (mkF m 5 #[.val (.ref a)] [(.ref a)]))
  refine OGo.step (fun uK kK => X1.ldcFloatC hx hown (mvT hZ (hw _ (List.mem_of_getElem? (i := 162) rfl))) (g := (mkF m 5 #[.val (.ref a)] [(.ref a)])) rfl (hb hby d23_5) uK kK) ?_
  show OGo p e below _ (T1.setTop (mkF m 7 #[.val (.ref a)] [(.float (1061158912 : UInt32)), (.ref a)]))
  obtain ⟨T2, h2, X2, e2, W2, st2⟩ := putF X1 hx hZ hown (host := "") (Or.inl (hw _ (List.mem_of_getElem? (i := 123) rfl))) Via.refl e1 F0 Ex (Or.inr ⟨(hw _ (List.mem_of_getElem? (i := 124) rfl)), rfl, hnm⟩) (hw _ (List.mem_of_getElem? (i := 99) rfl)) (ty := .float) (by decide) rfl rfl (g := (mkF m 7 #[.val (.ref a)] [(.float (1061158912 : UInt32)), (.ref a)])) rfl rfl (hb hby d23_7)
  have Fw2 := F0.same W2
  have F1_4 := (F1.other W2 (Or.inr (slot_ne (Or.inl (hw _ (List.mem_of_getElem? (i := 134) rfl))) (Or.inr (hw _ (List.mem_of_getElem? (i := 124) rfl))) (by decide) (t := .int) (t' := .float) (by decide) (by decide))))
  have F2_5 := (F2.other W2 (Or.inr (slot_ne (Or.inl (hw _ (List.mem_of_getElem? (i := 136) rfl))) (Or.inr (hw _ (List.mem_of_getElem? (i := 124) rfl))) (by decide) (t := .int) (t' := .float) (by decide) (by decide))))
  have F3_6 := (F3.other W2 (Or.inr (slot_ne (Or.inr (hw _ (List.mem_of_getElem? (i := 138) rfl))) (Or.inr (hw _ (List.mem_of_getElem? (i := 124) rfl))) (by decide) (t := .boolean) (t' := .float) (by decide) (by decide))))
  have Ex_7 := (Ex.wr W2)
  have ZS2 : n0 ≤ h2.size := Nat.le_trans Z0 (Keep.of_wr W2).1
  have KC2 : Keep h0 h2 [a] := (Keep.refl h0 [a]).wr W2 (Or.inl (List.mem_of_getElem? (i := 0) rfl))
  have N2 := Fr.snoc X2 N1 ga
  refine OGo.step (fun uK kK => st2 uK kK) ?_
  show OGo p e below _ (T2.setTop (mkF m 10 #[.val (.ref a)] []))
  exact OGo.retV X2 hx Bd.notSynchronized Bd.returns (hb hby d23_10) (by decide) (by decide) (by show Qhn Z a h0 n0 _ T2.heap _; rw [e2]; exact ⟨rfl, N2, KC2, F2_5, F3_6⟩)
theorem d22_0 : decode jdk_94_method_16_code 0 = .ok (.aload_n 0, 1) := by decide +kernel
theorem d22_1 : decode jdk_94_method_16_code 1 = .ok (.invokespecial 87, 3) := by decide +kernel
theorem d22_4 : decode jdk_94_method_16_code 4 = .ok (.aload_n 0, 1) := by decide +kernel
theorem d22_5 : decode jdk_94_method_16_code 5 = .ok (.iconst 0, 1) := by decide +kernel
theorem d22_6 : decode jdk_94_method_16_code 6 = .ok (.putfield 1, 3) := by decide +kernel
theorem d22_9 : decode jdk_94_method_16_code 9 = .ok (.aload_n 0, 1) := by decide +kernel
theorem d22_10 : decode jdk_94_method_16_code 10 = .ok (.iconst 0, 1) := by decide +kernel
theorem d22_11 : decode jdk_94_method_16_code 11 = .ok (.putfield 64, 3) := by decide +kernel
theorem d22_14 : decode jdk_94_method_16_code 14 = .ok (.return_, 1) := by decide +kernel
theorem pnln : plainName "java/util/LinkedHashMap" = true := by first | (simp [plainName, overriddenIn]; done) | decide +kernel
theorem pdln_0 : parseMethodDescriptor "()V" = some ⟨[], none⟩ := by decide +kernel
theorem efln (m : MethodId) (x0 : Addr) : entryFrame m #[(.ref x0)] 1 = mkF m 0 #[.val (.ref x0)] [] := by first | (simp [entryFrame, mkF, argsToLocals, Value.category]; done) | rfl
def Qln (Z : State) (a : Addr) (h0 : Heap) (n0 : Nat) (v : Option Value) (h : Heap) (L : List Loc) : Prop := v = none ∧ Fr n0 L ∧ Keep h0 h [a]
set_option maxRecDepth 65536 in
set_option maxHeartbeats 40000000 in
theorem rmln (l : Launch) (Z : State) (a0 : Array Value) (hw : ∀ d ∈ tables_1, d.before a0 Z = true) (ws : List Jvm.Cond) (a : Addr) (h0 : Heap) (n0 : Nat) (Z0 : n0 ≤ h0.size) (F0 : Fld Z h0 a "java/util/HashMap" "loadFactor" "F" (.float (0 : UInt32))) (F1 : Fld Z h0 a "java/util/HashMap" "threshold" "I" (.int (0 : Int32))) (F2 : Fld Z h0 a "java/util/LinkedHashMap" "putMode" "I" (.int (0 : Int32))) (F3 : Fld Z h0 a "java/util/LinkedHashMap" "accessOrder" "Z" (.int (0 : Int32))) (Ex : Exa Z h0 a "java/util/LinkedHashMap") (ga : n0 ≤ a) :
    MetFree l (⟨"java/util/LinkedHashMap", "<init>", "()V"⟩ : MethodName) (head1 (Jvm.Cond.code (⟨"java/util/LinkedHashMap", "<init>", "()V"⟩ : MethodName) jdk_94_method_16_code 1 none :: ws) ({ frames := 3, cells := 0, slots := 0, locals := 36 } : Room)) (fun aQ UQ => aQ = #[(.ref a)] ∧ Z.Warmed39 UQ.vm ∧ UQ.heap = h0) (fun _ _ _ _ _ => True) (fun _ U o U' => ∃ v L, o = .returned v ∧ Qln Z a h0 n0 v U'.heap L ∧ FrameEnd U o U' L ({ frames := 3, cells := 0, slots := 0, locals := 36 } : Room).cells ({ frames := 3, cells := 0, slots := 0, locals := 36 } : Room).slots) := by
  refine MetFree.of_bodySF (plainFor_of_name pnln) hisR ?_
  intro p e s m args below meth c s₁ Bd hml0 hP hK
  obtain ⟨rfl, hZ, hh⟩ := hP
  have hx := Bd.exec
  have hby := Bd.bytes
  have hml : c.maxLocals = 1 := hml0
  have hown : s.vm.findClass "java/util/LinkedHashMap" = some m.cls := findClass_of_methodNamed Bd.named
  have hnm := (name_of_methodNamed Bd.named Bd.method).1
  have X0 : Stand p l e ({ frames := 3, cells := 0, slots := 0, locals := 36 } : Room) s m #[(.ref a)] below meth c s₁ [] 0 0 := Stand.of_body Bd
  have e0 : s₁.heap = h0 := by rw [← hh, Bd.state]; rfl
  have N0 := Fr.nil n0
  show OGo p e below (OPost s (Qln Z a h0 n0) ({ frames := 3, cells := 0, slots := 0, locals := 36 } : Room).cells ({ frames := 3, cells := 0, slots := 0, locals := 36 } : Room).slots) (s₁.setTop (entryFrame m #[(.ref a)] 1))
  refine OGo.step (fun uK kK => castTop (efln m a) kK) ?_
  show OGo p e below _ (s₁.setTop (mkF m 0 #[.val (.ref a)] []))
  refine OGo.step (fun uK kK => XS.aloadN X0.here hx rfl (hb hby d22_0) rfl rfl kK) ?_
  show OGo p e below _ (s₁.setTop (mkF m 1 #[.val (.ref a)] [(.ref a)]))
  obtain ⟨_, _, ⟨T1, Lq1, kq_1, nq_1⟩, -, X1, ⟨Lc1, hQ1, lq1, yq1, zq1⟩, st1⟩ := X0.specialBack hx (y := (⟨"java/util/HashMap", "<init>", "()V"⟩ : MethodName)) rfl hown (mvT hZ (hw _ (List.mem_of_getElem? (i := 158) rfl))) (mvT hZ (hw _ (List.mem_of_getElem? (i := 159) rfl))) (mvT hZ (hw _ (List.mem_of_getElem? (i := 161) rfl))) (by decide) (backOf (W := 0) (rmhn l Z a0 hw [] a  h0 n0 Z0 F0 F1 F2 F3 Ex ga) hZ (hw _ (List.mem_of_getElem? (i := 161) rfl)) (hw _ (List.mem_of_getElem? (i := 109) rfl)) (by decide) (by decide)) (g := (mkF m 1 #[.val (.ref a)] [(.ref a)])) rfl (by rw [hml]; rfl) (Steps.refl _) (a := a) (argsL := []) (rest := []) (lenOf pdln_0 rfl) rfl (by show 2 * 0 + _ ≤ _; exact Nat.le_of_eq rfl) (hb hby d22_1) (fun _ _ => ⟨rfl, e0, (by decide : 0 + 0 ≤ _), (by decide : 0 + 0 ≤ _)⟩)
  dsimp only [Pt.U, Pt.locs, Pt.cells, Pt.slots] at X1 lq1 yq1 zq1 st1 hQ1
  subst lq1 yq1 zq1
  obtain ⟨rfl, Nq1, K1, Fp1, Fo1⟩ := hQ1
  have Ex_6 := (Ex.keep K1)
  have ZS1 : n0 ≤ T1.heap.size := Nat.le_trans Z0 K1.1
  have KC1 : Keep h0 T1.heap [a] := (Keep.refl h0 [a]).trans K1 (allS (Or.inl (List.mem_of_getElem? (i := 0) rfl)) all0)
  have N1 := Fr.app N0 Nq1
  refine OGo.steps st1 ?_
  show OGo p e below _ (T1.setTop (mkF m 4 #[.val (.ref a)] []))
  refine OGo.step (fun uK kK => XS.aloadN X1.here hx rfl (hb hby d22_4) rfl rfl kK) ?_
  show OGo p e below _ (T1.setTop (mkF m 5 #[.val (.ref a)] [(.ref a)]))
  refine OGo.step (fun uK kK => XS.iconst X1.here hx rfl (hb hby d22_5) kK) ?_
  show OGo p e below _ (T1.setTop (mkF m 6 #[.val (.ref a)] [(.int (0 : Int32)), (.ref a)]))
  obtain ⟨T7, h7, X7, e7, W7, st7⟩ := putF X1 hx hZ hown (host := "") (Or.inl (hw _ (List.mem_of_getElem? (i := 135) rfl))) Via.refl rfl Fp1 Ex_6 (Or.inl (hw _ (List.mem_of_getElem? (i := 136) rfl))) (hw _ (List.mem_of_getElem? (i := 99) rfl)) (ty := .int) (by decide) rfl rfl (g := (mkF m 6 #[.val (.ref a)] [(.int (0 : Int32)), (.ref a)])) rfl rfl (hb hby d22_6)
  have Fw7 := Fp1.same W7
  have Ex_8 := (Ex_6.wr W7)
  have Fo1_10 := (Fo1.other W7 (Or.inr (slot_ne (Or.inr (hw _ (List.mem_of_getElem? (i := 138) rfl))) (Or.inl (hw _ (List.mem_of_getElem? (i := 136) rfl))) (by decide) (t := .boolean) (t' := .int) (by decide) (by decide))))
  have ZS7 : n0 ≤ h7.size := Nat.le_trans ZS1 (Keep.of_wr W7).1
  have KC7 : Keep h0 h7 [a] := KC1.wr W7 (Or.inl (List.mem_of_getElem? (i := 0) rfl))
  have N7 := Fr.snoc X7 N1 ga
  refine OGo.step (fun uK kK => st7 uK kK) ?_
  show OGo p e below _ (T7.setTop (mkF m 9 #[.val (.ref a)] []))
  refine OGo.step (fun uK kK => XS.aloadN X7.here hx rfl (hb hby d22_9) rfl rfl kK) ?_
  show OGo p e below _ (T7.setTop (mkF m 10 #[.val (.ref a)] [(.ref a)]))
  refine OGo.step (fun uK kK => XS.iconst X7.here hx rfl (hb hby d22_10) kK) ?_
  show OGo p e below _ (T7.setTop (mkF m 11 #[.val (.ref a)] [(.int (0 : Int32)), (.ref a)]))
  obtain ⟨T11, h11, X11, e11, W11, st11⟩ := putFN X7 hx hZ hown (hw _ (List.mem_of_getElem? (i := 137) rfl)) Via.refl e7 Fo1_10 Ex_8 (Or.inr ⟨(hw _ (List.mem_of_getElem? (i := 138) rfl)), rfl, hnm⟩) (hw _ (List.mem_of_getElem? (i := 99) rfl)) (ty := .boolean) (v' := (.int (nar .boolean (0 : Int32)))) (by decide) rfl (fits_nar_bool _) (g := (mkF m 11 #[.val (.ref a)] [(.int (0 : Int32)), (.ref a)])) rfl rfl (hb hby d22_11)
  have Fw11 := Fo1_10.same W11
  have Ex_12 := (Ex_8.wr W11)
  have Fw7_14 := (Fw7.other W11 (Or.inr (slot_ne (Or.inl (hw _ (List.mem_of_getElem? (i := 136) rfl))) (Or.inr (hw _ (List.mem_of_getElem? (i := 138) rfl))) (by decide) (t := .int) (t' := .boolean) (by decide) (by decide))))
  have ZS11 : n0 ≤ h11.size := Nat.le_trans ZS7 (Keep.of_wr W11).1
  have KC11 : Keep h0 h11 [a] := KC7.wr W11 (Or.inl (List.mem_of_getElem? (i := 0) rfl))
  have N11 := Fr.snoc X11 N7 ga
  refine OGo.step (fun uK kK => st11 uK kK) ?_
  show OGo p e below _ (T11.setTop (mkF m 14 #[.val (.ref a)] []))
  exact OGo.retV X11 hx Bd.notSynchronized Bd.returns (hb hby d22_14) (by decide) (by decide) (by show Qln Z a h0 n0 _ T11.heap _; rw [e11]; exact ⟨rfl, N11, KC11⟩)
theorem d12_0 : decode jdk_93_method_5_code 0 = .ok (.aload_n 0, 1) := by decide +kernel
theorem d12_1 : decode jdk_93_method_5_code 1 = .ok (.invokespecial 1, 3) := by decide +kernel
theorem d12_4 : decode jdk_93_method_5_code 4 = .ok (.aload_n 0, 1) := by decide +kernel
theorem d12_5 : decode jdk_93_method_5_code 5 = .ok (.new 42, 3) := by decide +kernel
theorem d12_8 : decode jdk_93_method_5_code 8 = .ok (.dup, 1) := by decide +kernel
theorem d12_9 : decode jdk_93_method_5_code 9 = .ok (.iload_n 1, 1) := by decide +kernel
theorem d12_10 : decode jdk_93_method_5_code 10 = .ok (.fload_n 2, 1) := by decide +kernel
theorem d12_11 : decode jdk_93_method_5_code 11 = .ok (.invokespecial 44, 3) := by decide +kernel
theorem d12_14 : decode jdk_93_method_5_code 14 = .ok (.putfield 10, 3) := by decide +kernel
theorem d12_17 : decode jdk_93_method_5_code 17 = .ok (.return_, 1) := by decide +kernel
theorem pnhs : plainName "java/util/HashSet" = true := by first | (simp [plainName, overriddenIn]; done) | decide +kernel
theorem pdhs_0 : parseMethodDescriptor "()V" = some ⟨[], none⟩ := by decide +kernel
theorem pdhs_1 : parseMethodDescriptor "(IF)V" = some ⟨[.int, .float], none⟩ := by decide +kernel
theorem efhs (m : MethodId) (x0 : Addr) (x1 : Int32) (x2 : UInt32) (x3 : Int32) : entryFrame m #[(.ref x0), (.int x1), (.float x2), (.int x3)] 4 = mkF m 0 #[.val (.ref x0), .val (.int x1), .val (.float x2), .val (.int x3)] [] := by first | (simp [entryFrame, mkF, argsToLocals, Value.category]; done) | rfl
def Qhs (Z : State) (a : Addr) (h0 : Heap) (n0 : Nat) (v : Option Value) (h : Heap) (L : List Loc) : Prop := v = none ∧ Fr n0 L ∧ Keep h0 h [a]
set_option maxRecDepth 65536 in
set_option maxHeartbeats 40000000 in
theorem rmhs (l : Launch) (Z : State) (a0 : Array Value) (hw : ∀ d ∈ tables_1, d.before a0 Z = true) (ws : List Jvm.Cond) (a : Addr) (h0 : Heap) (n0 : Nat) (Z0 : n0 ≤ h0.size) (F0 : Fld Z h0 a "java/util/HashSet" "map" "Ljava/util/HashMap;" .null) (Ex : Exa Z h0 a "java/util/LinkedHashSet") (ga : n0 ≤ a) :
    MetFree l (⟨"java/util/HashSet", "<init>", "(IFZ)V"⟩ : MethodName) (head1 (Jvm.Cond.code (⟨"java/util/HashSet", "<init>", "(IFZ)V"⟩ : MethodName) jdk_93_method_5_code 4 none :: ws) ({ frames := 4, cells := 1, slots := 12, locals := 60 } : Room)) (fun aQ UQ => aQ = #[(.ref a), (.int (16 : Int32)), (.float (1061158912 : UInt32)), (.int (1 : Int32))] ∧ Z.Warmed39 UQ.vm ∧ UQ.heap = h0) (fun _ _ _ _ _ => True) (fun _ U o U' => ∃ v L, o = .returned v ∧ Qhs Z a h0 n0 v U'.heap L ∧ FrameEnd U o U' L ({ frames := 4, cells := 1, slots := 12, locals := 60 } : Room).cells ({ frames := 4, cells := 1, slots := 12, locals := 60 } : Room).slots) := by
  refine MetFree.of_bodySF (plainFor_of_name pnhs) hisR ?_
  intro p e s m args below meth c s₁ Bd hml0 hP hK
  obtain ⟨rfl, hZ, hh⟩ := hP
  have hx := Bd.exec
  have hby := Bd.bytes
  have hml : c.maxLocals = 4 := hml0
  have hown : s.vm.findClass "java/util/HashSet" = some m.cls := findClass_of_methodNamed Bd.named
  have hnm := (name_of_methodNamed Bd.named Bd.method).1
  have X0 : Stand p l e ({ frames := 4, cells := 1, slots := 12, locals := 60 } : Room) s m #[(.ref a), (.int (16 : Int32)), (.float (1061158912 : UInt32)), (.int (1 : Int32))] below meth c s₁ [] 0 0 := Stand.of_body Bd
  have e0 : s₁.heap = h0 := by rw [← hh, Bd.state]; rfl
  have N0 := Fr.nil n0
  show OGo p e below (OPost s (Qhs Z a h0 n0) ({ frames := 4, cells := 1, slots := 12, locals := 60 } : Room).cells ({ frames := 4, cells := 1, slots := 12, locals := 60 } : Room).slots) (s₁.setTop (entryFrame m #[(.ref a), (.int (16 : Int32)), (.float (1061158912 : UInt32)), (.int (1 : Int32))] 4))
  refine OGo.step (fun uK kK => castTop (efhs m a (16 : Int32) (1061158912 : UInt32) (1 : Int32)) kK) ?_
  show OGo p e below _ (s₁.setTop (mkF m 0 #[.val (.ref a), .val (.int (16 : Int32)), .val (.float (1061158912 : UInt32)), .val (.int (1 : Int32))] []))
  refine OGo.step (fun uK kK => XS.aloadN X0.here hx rfl (hb hby d12_0) rfl rfl kK) ?_
  show OGo p e below _ (s₁.setTop (mkF m 1 #[.val (.ref a), .val (.int (16 : Int32)), .val (.float (1061158912 : UInt32)), .val (.int (1 : Int32))] [(.ref a)]))
  obtain ⟨_, _, ⟨T1, Lq1, kq_1, nq_1⟩, -, X1, ⟨Lc1, hQ1, lq1, yq1, zq1⟩, st1⟩ := X0.specialBack hx (y := (⟨"java/util/AbstractSet", "<init>", "()V"⟩ : MethodName)) rfl hown (mvT hZ (hw _ (List.mem_of_getElem? (i := 85) rfl))) (mvT hZ (hw _ (List.mem_of_getElem? (i := 86) rfl))) (mvT hZ (hw _ (List.mem_of_getElem? (i := 90) rfl))) (by decide) (backOf (W := 0) (rmas l Z a0 hw [] a  h0 n0 Z0 ) hZ (hw _ (List.mem_of_getElem? (i := 90) rfl)) (hw _ (List.mem_of_getElem? (i := 89) rfl)) (by decide) (by decide)) (g := (mkF m 1 #[.val (.ref a), .val (.int (16 : Int32)), .val (.float (1061158912 : UInt32)), .val (.int (1 : Int32))] [(.ref a)])) rfl (by rw [hml]; rfl) (Steps.refl _) (a := a) (argsL := []) (rest := []) (lenOf pdhs_0 rfl) rfl (by show 2 * 0 + _ ≤ _; exact Nat.le_of_eq rfl) (hb hby d12_1) (fun _ _ => ⟨rfl, e0, (by decide : 0 + 0 ≤ _), (by decide : 0 + 0 ≤ _)⟩)
  dsimp only [Pt.U, Pt.locs, Pt.cells, Pt.slots] at X1 lq1 yq1 zq1 st1 hQ1
  subst lq1 yq1 zq1
  obtain ⟨rfl, Nq1, e1⟩ := hQ1
  have N1 := Fr.app N0 Nq1
  refine OGo.steps st1 ?_
  show OGo p e below _ (T1.setTop (mkF m 4 #[.val (.ref a), .val (.int (16 : Int32)), .val (.float (1061158912 : UInt32)), .val (.int (1 : Int32))] []))
  refine OGo.step (fun uK kK => XS.aloadN X1.here hx rfl (hb hby d12_4) rfl rfl kK) ?_
  show OGo p e below _ (T1.setTop (mkF m 5 #[.val (.ref a), .val (.int (16 : Int32)), .val (.float (1061158912 : UInt32)), .val (.int (1 : Int32))] [(.ref a)]))
  obtain ⟨T2, h2, X2, e2, E2, A2, D2, -, st2⟩ := newO X1 hx hZ hown (hw _ (List.mem_of_getElem? (i := 98) rfl)) (hw _ (List.mem_of_getElem? (i := 99) rfl)) (hw _ (List.mem_of_getElem? (i := 100) rfl)) e1 (g := (mkF m 5 #[.val (.ref a), .val (.int (16 : Int32)), .val (.float (1061158912 : UInt32)), .val (.int (1 : Int32))] [(.ref a)])) rfl (hb hby d12_5) (by decide) (by decide)
  obtain ⟨b2, g2⟩ : ∃ z, z = h0.size := ⟨_, rfl⟩
  rw [← g2] at A2 D2 st2
  have ne_a_b2 : a ≠ b2 := Nat.ne_of_lt (Nat.lt_of_lt_of_le F0.lt (Nat.le_of_eq g2.symm))
  have gn_b2 : n0 ≤ b2 := Nat.le_trans Z0 (Nat.le_of_eq g2.symm)
  have sz_b2 : h0.size ≤ b2 := Nat.le_trans (Keep.refl h0 [a]).1 (Nat.le_of_eq g2.symm)
  have F0_3 := (F0.ext E2)
  have Ex_4 := (Ex.ext E2)
  have ZS2 : n0 ≤ h2.size := Nat.le_trans Z0 E2.1
  have KC2 : Keep h0 h2 [a] := (Keep.refl h0 [a]).ext E2
  have FloadFactor_b2 : Fld Z h2 b2 "java/util/HashMap" "loadFactor" "F" (.float (0 : UInt32)) := D2 (Or.inr (hw _ (List.mem_of_getElem? (i := 124) rfl))) (ty := .float) (by decide)
  have Fthreshold_b2 : Fld Z h2 b2 "java/util/HashMap" "threshold" "I" (.int (0 : Int32)) := D2 (Or.inl (hw _ (List.mem_of_getElem? (i := 134) rfl))) (ty := .int) (by decide)
  have FputMode_b2 : Fld Z h2 b2 "java/util/LinkedHashMap" "putMode" "I" (.int (0 : Int32)) := D2 (Or.inl (hw _ (List.mem_of_getElem? (i := 136) rfl))) (ty := .int) (by decide)
  have FaccessOrder_b2 : Fld Z h2 b2 "java/util/LinkedHashMap" "accessOrder" "Z" (.int (0 : Int32)) := D2 (Or.inr (hw _ (List.mem_of_getElem? (i := 138) rfl))) (ty := .boolean) (by decide)
  refine OGo.step (fun uK kK => st2 uK kK) ?_
  show OGo p e below _ (T2.setTop (mkF m 8 #[.val (.ref a), .val (.int (16 : Int32)), .val (.float (1061158912 : UInt32)), .val (.int (1 : Int32))] [(.ref b2), (.ref a)]))
  refine OGo.step (fun uK kK => XS.dup X2.here hx rfl (hb hby d12_8) rfl rfl kK) ?_
  show OGo p e below _ (T2.setTop (mkF m 9 #[.val (.ref a), .val (.int (16 : Int32)), .val (.float (1061158912 : UInt32)), .val (.int (1 : Int32))] [(.ref b2), (.ref b2), (.ref a)]))
  refine OGo.step (fun uK kK => XS.iloadN X2.here hx rfl (hb hby d12_9) rfl kK) ?_
  show OGo p e below _ (T2.setTop (mkF m 10 #[.val (.ref a), .val (.int (16 : Int32)), .val (.float (1061158912 : UInt32)), .val (.int (1 : Int32))] [(.int (16 : Int32)), (.ref b2), (.ref b2), (.ref a)]))
  refine OGo.step (fun uK kK => XS.floadN X2.here hx rfl (hb hby d12_10) rfl kK) ?_
  show OGo p e below _ (T2.setTop (mkF m 11 #[.val (.ref a), .val (.int (16 : Int32)), .val (.float (1061158912 : UInt32)), .val (.int (1 : Int32))] [(.float (1061158912 : UInt32)), (.int (16 : Int32)), (.ref b2), (.ref b2), (.ref a)]))
  obtain ⟨_, _, ⟨T5, Lq5, kq_5, nq_5⟩, -, X5, ⟨Lc5, hQ5, lq5, yq5, zq5⟩, st5⟩ := X2.specialBack hx (y := (⟨"java/util/LinkedHashMap", "<init>", "(IF)V"⟩ : MethodName)) rfl hown (mvT hZ (hw _ (List.mem_of_getElem? (i := 101) rfl))) (mvT hZ (hw _ (List.mem_of_getElem? (i := 102) rfl))) (mvT hZ (hw _ (List.mem_of_getElem? (i := 104) rfl))) (by decide) (backOf (W := 2) (rmlm l Z a0 hw [] b2  h2 n0 ZS2 FloadFactor_b2 Fthreshold_b2 FputMode_b2 FaccessOrder_b2 A2 gn_b2) hZ (hw _ (List.mem_of_getElem? (i := 104) rfl)) (hw _ (List.mem_of_getElem? (i := 100) rfl)) (by decide) (by decide)) (g := (mkF m 11 #[.val (.ref a), .val (.int (16 : Int32)), .val (.float (1061158912 : UInt32)), .val (.int (1 : Int32))] [(.float (1061158912 : UInt32)), (.int (16 : Int32)), (.ref b2), (.ref b2), (.ref a)])) rfl (by rw [hml]; rfl) (Steps.refl _) (a := b2) (argsL := [(.int (16 : Int32)), (.float (1061158912 : UInt32))]) (rest := [(.ref b2), (.ref a)]) (lenOf pdhs_1 rfl) rfl (by show 2 * 0 + _ ≤ _; exact Nat.le_of_eq rfl) (hb hby d12_11) (fun _ _ => ⟨rfl, e2, (by decide : 1 + 0 ≤ _), (by decide : 12 + 0 ≤ _)⟩)
  dsimp only [Pt.U, Pt.locs, Pt.cells, Pt.slots] at X5 lq5 yq5 zq5 st5 hQ5
  subst lq5 yq5 zq5
  obtain ⟨rfl, Nq5, K5⟩ := hQ5
  have F0_6 := (F0_3.keep K5 (ninS ne_a_b2 nin0))
  have Ex_7 := (Ex_4.keep K5)
  have A2_8 := (A2.keep K5)
  have ZS5 : n0 ≤ T5.heap.size := Nat.le_trans ZS2 K5.1
  have KC5 : Keep h0 T5.heap [a] := KC2.trans K5 (allS (Or.inr sz_b2) all0)
  have N5 := Fr.app N1 Nq5
  refine OGo.steps st5 ?_
  show OGo p e below _ (T5.setTop (mkF m 14 #[.val (.ref a), .val (.int (16 : Int32)), .val (.float (1061158912 : UInt32)), .val (.int (1 : Int32))] [(.ref b2), (.ref a)]))
  obtain ⟨T13, h13, X13, e13, W13, st13⟩ := putF X5 hx hZ hown (host := "") (Or.inl (hw _ (List.mem_of_getElem? (i := 139) rfl))) Via.refl rfl F0_6 Ex_7 (Or.inl (hw _ (List.mem_of_getElem? (i := 140) rfl))) (hw _ (List.mem_of_getElem? (i := 73) rfl)) (ty := (.object "java/util/HashMap")) (by decide) rfl rfl (g := (mkF m 14 #[.val (.ref a), .val (.int (16 : Int32)), .val (.float (1061158912 : UInt32)), .val (.int (1 : Int32))] [(.ref b2), (.ref a)])) rfl rfl (hb hby d12_14)
  have Fw13 := F0_6.same W13
  have Ex_15 := (Ex_7.wr W13)
  have A2_16 := (A2_8.wr W13)
  have ZS13 : n0 ≤ h13.size := Nat.le_trans ZS5 (Keep.of_wr W13).1
  have KC13 : Keep h0 h13 [a] := KC5.wr W13 (Or.inl (List.mem_of_getElem? (i := 0) rfl))
  have N13 := Fr.snoc X13 N5 ga
  refine OGo.step (fun uK kK => st13 uK kK) ?_
  show OGo p e below _ (T13.setTop (mkF m 17 #[.val (.ref a), .val (.int (16 : Int32)), .val (.float (1061158912 : UInt32)), .val (.int (1 : Int32))] []))
  exact OGo.retV X13 hx Bd.notSynchronized Bd.returns (hb hby d12_17) (by decide) (by decide) (by show Qhs Z a h0 n0 _ T13.heap _; rw [e13]; exact ⟨rfl, N13, KC13⟩)
theorem d11_0 : decode jdk_2620_method_3_code 0 = .ok (.aload_n 0, 1) := by decide +kernel
theorem d11_1 : decode jdk_2620_method_3_code 1 = .ok (.bipush 16, 2) := by decide +kernel
theorem d11_3 : decode jdk_2620_method_3_code 3 = .ok (.ldc 7, 2) := by decide +kernel
theorem d11_5 : decode jdk_2620_method_3_code 5 = .ok (.iconst 1, 1) := by decide +kernel
theorem d11_6 : decode jdk_2620_method_3_code 6 = .ok (.invokespecial 1, 3) := by decide +kernel
theorem d11_9 : decode jdk_2620_method_3_code 9 = .ok (.return_, 1) := by decide +kernel
theorem pnls : plainName "java/util/LinkedHashSet" = true := by first | (simp [plainName, overriddenIn]; done) | decide +kernel
theorem pdls_0 : parseMethodDescriptor "(IFZ)V" = some ⟨[.int, .float, .boolean], none⟩ := by decide +kernel
theorem efls (m : MethodId) (x0 : Addr) : entryFrame m #[(.ref x0)] 1 = mkF m 0 #[.val (.ref x0)] [] := by first | (simp [entryFrame, mkF, argsToLocals, Value.category]; done) | rfl
def Qls (Z : State) (a : Addr) (h0 : Heap) (n0 : Nat) (v : Option Value) (h : Heap) (L : List Loc) : Prop := v = none ∧ Fr n0 L ∧ Keep h0 h [a]
set_option maxRecDepth 65536 in
set_option maxHeartbeats 40000000 in
theorem rmls (l : Launch) (Z : State) (a0 : Array Value) (hw : ∀ d ∈ tables_1, d.before a0 Z = true) (ws : List Jvm.Cond) (a : Addr) (h0 : Heap) (n0 : Nat) (Z0 : n0 ≤ h0.size) (F0 : Fld Z h0 a "java/util/HashSet" "map" "Ljava/util/HashMap;" .null) (Ex : Exa Z h0 a "java/util/LinkedHashSet") (ga : n0 ≤ a) :
    MetFree l (⟨"java/util/LinkedHashSet", "<init>", "()V"⟩ : MethodName) (head1 (Jvm.Cond.code (⟨"java/util/LinkedHashSet", "<init>", "()V"⟩ : MethodName) jdk_2620_method_3_code 1 none :: ws) ({ frames := 5, cells := 1, slots := 12, locals := 75 } : Room)) (fun aQ UQ => aQ = #[(.ref a)] ∧ Z.Warmed39 UQ.vm ∧ UQ.heap = h0) (fun _ _ _ _ _ => True) (fun _ U o U' => ∃ v L, o = .returned v ∧ Qls Z a h0 n0 v U'.heap L ∧ FrameEnd U o U' L ({ frames := 5, cells := 1, slots := 12, locals := 75 } : Room).cells ({ frames := 5, cells := 1, slots := 12, locals := 75 } : Room).slots) := by
  refine MetFree.of_bodySF (plainFor_of_name pnls) hisR ?_
  intro p e s m args below meth c s₁ Bd hml0 hP hK
  obtain ⟨rfl, hZ, hh⟩ := hP
  have hx := Bd.exec
  have hby := Bd.bytes
  have hml : c.maxLocals = 1 := hml0
  have hown : s.vm.findClass "java/util/LinkedHashSet" = some m.cls := findClass_of_methodNamed Bd.named
  have hnm := (name_of_methodNamed Bd.named Bd.method).1
  have X0 : Stand p l e ({ frames := 5, cells := 1, slots := 12, locals := 75 } : Room) s m #[(.ref a)] below meth c s₁ [] 0 0 := Stand.of_body Bd
  have e0 : s₁.heap = h0 := by rw [← hh, Bd.state]; rfl
  have N0 := Fr.nil n0
  show OGo p e below (OPost s (Qls Z a h0 n0) ({ frames := 5, cells := 1, slots := 12, locals := 75 } : Room).cells ({ frames := 5, cells := 1, slots := 12, locals := 75 } : Room).slots) (s₁.setTop (entryFrame m #[(.ref a)] 1))
  refine OGo.step (fun uK kK => castTop (efls m a) kK) ?_
  show OGo p e below _ (s₁.setTop (mkF m 0 #[.val (.ref a)] []))
  refine OGo.step (fun uK kK => XS.aloadN X0.here hx rfl (hb hby d11_0) rfl rfl kK) ?_
  show OGo p e below _ (s₁.setTop (mkF m 1 #[.val (.ref a)] [(.ref a)]))
  refine OGo.step (fun uK kK => XS.bipush X0.here hx rfl (hb hby d11_1) kK) ?_
  show OGo p e below _ (s₁.setTop (mkF m 3 #[.val (.ref a)] [(.int (16 : Int32)), (.ref a)]))
  refine OGo.step (fun uK kK => X0.ldcFloatC hx hown (mvT hZ (hw _ (List.mem_of_getElem? (i := 78) rfl))) (g := (mkF m 3 #[.val (.ref a)] [(.int (16 : Int32)), (.ref a)])) rfl (hb hby d11_3) uK kK) ?_
  show OGo p e below _ (s₁.setTop (mkF m 5 #[.val (.ref a)] [(.float (1061158912 : UInt32)), (.int (16 : Int32)), (.ref a)]))
  refine OGo.step (fun uK kK => XS.iconst X0.here hx rfl (hb hby d11_5) kK) ?_
  show OGo p e below _ (s₁.setTop (mkF m 6 #[.val (.ref a)] [(.int (1 : Int32)), (.float (1061158912 : UInt32)), (.int (16 : Int32)), (.ref a)]))
  obtain ⟨_, _, ⟨T1, Lq1, kq_1, nq_1⟩, -, X1, ⟨Lc1, hQ1, lq1, yq1, zq1⟩, st1⟩ := X0.specialBack hx (y := (⟨"java/util/HashSet", "<init>", "(IFZ)V"⟩ : MethodName)) rfl hown (mvT hZ (hw _ (List.mem_of_getElem? (i := 79) rfl))) (mvT hZ (hw _ (List.mem_of_getElem? (i := 80) rfl))) (mvT hZ (hw _ (List.mem_of_getElem? (i := 84) rfl))) (by decide) (backOf (W := 0) (rmhs l Z a0 hw [] a  h0 n0 Z0 F0 Ex ga) hZ (hw _ (List.mem_of_getElem? (i := 84) rfl)) (hw _ (List.mem_of_getElem? (i := 83) rfl)) (by decide) (by decide)) (g := (mkF m 6 #[.val (.ref a)] [(.int (1 : Int32)), (.float (1061158912 : UInt32)), (.int (16 : Int32)), (.ref a)])) rfl (by rw [hml]; rfl) (Steps.refl _) (a := a) (argsL := [(.int (16 : Int32)), (.float (1061158912 : UInt32)), (.int (1 : Int32))]) (rest := []) (lenOf pdls_0 rfl) rfl (by show 2 * 0 + _ ≤ _; exact Nat.le_of_eq rfl) (hb hby d11_6) (fun _ _ => ⟨rfl, e0, (by decide : 0 + 1 ≤ _), (by decide : 0 + 12 ≤ _)⟩)
  dsimp only [Pt.U, Pt.locs, Pt.cells, Pt.slots] at X1 lq1 yq1 zq1 st1 hQ1
  subst lq1 yq1 zq1
  obtain ⟨rfl, Nq1, K1⟩ := hQ1
  have Ex_3 := (Ex.keep K1)
  have ZS1 : n0 ≤ T1.heap.size := Nat.le_trans Z0 K1.1
  have KC1 : Keep h0 T1.heap [a] := (Keep.refl h0 [a]).trans K1 (allS (Or.inl (List.mem_of_getElem? (i := 0) rfl)) all0)
  have N1 := Fr.app N0 Nq1
  refine OGo.steps st1 ?_
  show OGo p e below _ (T1.setTop (mkF m 9 #[.val (.ref a)] []))
  exact OGo.retV X1 hx Bd.notSynchronized Bd.returns (hb hby d11_9) (by decide) (by decide) (by exact ⟨rfl, N1, KC1⟩)
theorem d21_0 : decode prog_51_method_1_code 0 = .ok (.aload_n 0, 1) := by decide +kernel
theorem d21_1 : decode prog_51_method_1_code 1 = .ok (.invokespecial 1, 3) := by decide +kernel
theorem d21_4 : decode prog_51_method_1_code 4 = .ok (.aload_n 0, 1) := by decide +kernel
theorem d21_5 : decode prog_51_method_1_code 5 = .ok (.new 7, 3) := by decide +kernel
theorem d21_8 : decode prog_51_method_1_code 8 = .ok (.dup, 1) := by decide +kernel
theorem d21_9 : decode prog_51_method_1_code 9 = .ok (.invokespecial 9, 3) := by decide +kernel
theorem d21_12 : decode prog_51_method_1_code 12 = .ok (.putfield 10, 3) := by decide +kernel
theorem d21_15 : decode prog_51_method_1_code 15 = .ok (.aload_n 0, 1) := by decide +kernel
theorem d21_16 : decode prog_51_method_1_code 16 = .ok (.new 16, 3) := by decide +kernel
theorem d21_19 : decode prog_51_method_1_code 19 = .ok (.dup, 1) := by decide +kernel
theorem d21_20 : decode prog_51_method_1_code 20 = .ok (.invokespecial 18, 3) := by decide +kernel
theorem d21_23 : decode prog_51_method_1_code 23 = .ok (.putfield 19, 3) := by decide +kernel
theorem d21_26 : decode prog_51_method_1_code 26 = .ok (.aload_n 0, 1) := by decide +kernel
theorem d21_27 : decode prog_51_method_1_code 27 = .ok (.iconst (-1), 1) := by decide +kernel
theorem d21_28 : decode prog_51_method_1_code 28 = .ok (.putfield 23, 3) := by decide +kernel
theorem d21_31 : decode prog_51_method_1_code 31 = .ok (.return_, 1) := by decide +kernel
theorem pnnd : plainName "com/example/graph_of_conflicts/graphofconflicts/engine/Node" = true := by first | (simp [plainName, overriddenIn]; done) | decide +kernel
theorem pdnd_0 : parseMethodDescriptor "()V" = some ⟨[], none⟩ := by decide +kernel
theorem efnd (m : MethodId) (x0 : Addr) : entryFrame m #[(.ref x0)] 1 = mkF m 0 #[.val (.ref x0)] [] := by first | (simp [entryFrame, mkF, argsToLocals, Value.category]; done) | rfl
def Qnd (Z : State) (a : Addr) (h0 : Heap) (n0 : Nat) (v : Option Value) (h : Heap) (L : List Loc) : Prop := v = none ∧ Fr n0 L ∧ Keep h0 h [a]
set_option maxRecDepth 65536 in
set_option maxHeartbeats 40000000 in
theorem rmnd (l : Launch) (Z : State) (a0 : Array Value) (hw : ∀ d ∈ tables_1, d.before a0 Z = true) (ws : List Jvm.Cond) (a : Addr) (h0 : Heap) (n0 : Nat) (Z0 : n0 ≤ h0.size) (F0 : Fld Z h0 a "com/example/graph_of_conflicts/graphofconflicts/engine/Node" "predecessors" "Ljava/util/Set;" .null) (F1 : Fld Z h0 a "com/example/graph_of_conflicts/graphofconflicts/engine/Node" "successors" "Ljava/util/Map;" .null) (F2 : Fld Z h0 a "com/example/graph_of_conflicts/graphofconflicts/engine/Node" "reachSlot" "I" (.int (0 : Int32))) (Ex : Exa Z h0 a "com/example/graph_of_conflicts/graphofconflicts/engine/Node") (ga : n0 ≤ a) :
    MetFree l (⟨"com/example/graph_of_conflicts/graphofconflicts/engine/Node", "<init>", "()V"⟩ : MethodName) (head1 (Jvm.Cond.code (⟨"com/example/graph_of_conflicts/graphofconflicts/engine/Node", "<init>", "()V"⟩ : MethodName) prog_51_method_1_code 1 none :: ws) ({ frames := 6, cells := 3, slots := 25, locals := 90 } : Room)) (fun aQ UQ => aQ = #[(.ref a)] ∧ Z.Warmed39 UQ.vm ∧ UQ.heap = h0) (fun _ _ _ _ _ => True) (fun _ U o U' => ∃ v L, o = .returned v ∧ Qnd Z a h0 n0 v U'.heap L ∧ FrameEnd U o U' L ({ frames := 6, cells := 3, slots := 25, locals := 90 } : Room).cells ({ frames := 6, cells := 3, slots := 25, locals := 90 } : Room).slots) := by
  refine MetFree.of_bodySF (plainFor_of_name pnnd) hisR ?_
  intro p e s m args below meth c s₁ Bd hml0 hP hK
  obtain ⟨rfl, hZ, hh⟩ := hP
  have hx := Bd.exec
  have hby := Bd.bytes
  have hml : c.maxLocals = 1 := hml0
  have hown : s.vm.findClass "com/example/graph_of_conflicts/graphofconflicts/engine/Node" = some m.cls := findClass_of_methodNamed Bd.named
  have hnm := (name_of_methodNamed Bd.named Bd.method).1
  have X0 : Stand p l e ({ frames := 6, cells := 3, slots := 25, locals := 90 } : Room) s m #[(.ref a)] below meth c s₁ [] 0 0 := Stand.of_body Bd
  have e0 : s₁.heap = h0 := by rw [← hh, Bd.state]; rfl
  have N0 := Fr.nil n0
  show OGo p e below (OPost s (Qnd Z a h0 n0) ({ frames := 6, cells := 3, slots := 25, locals := 90 } : Room).cells ({ frames := 6, cells := 3, slots := 25, locals := 90 } : Room).slots) (s₁.setTop (entryFrame m #[(.ref a)] 1))
  refine OGo.step (fun uK kK => castTop (efnd m a) kK) ?_
  show OGo p e below _ (s₁.setTop (mkF m 0 #[.val (.ref a)] []))
  refine OGo.step (fun uK kK => XS.aloadN X0.here hx rfl (hb hby d21_0) rfl rfl kK) ?_
  show OGo p e below _ (s₁.setTop (mkF m 1 #[.val (.ref a)] [(.ref a)]))
  obtain ⟨T1, X1, e1, st1⟩ := initO X0 hx hZ hown (hw _ (List.mem_of_getElem? (i := 149) rfl)) (hw _ (List.mem_of_getElem? (i := 23) rfl)) (hw _ (List.mem_of_getElem? (i := 24) rfl)) e0 (g := (mkF m 1 #[.val (.ref a)] [(.ref a)])) rfl (by rw [hml]; rfl) rfl (hb hby d21_1) (by decide) (W := 0) (by show 2 * 0 + _ ≤ _; exact Nat.le_of_eq rfl) (by decide)
  refine OGo.step (fun uK kK => st1 uK kK) ?_
  show OGo p e below _ (T1.setTop (mkF m 4 #[.val (.ref a)] []))
  refine OGo.step (fun uK kK => XS.aloadN X1.here hx rfl (hb hby d21_4) rfl rfl kK) ?_
  show OGo p e below _ (T1.setTop (mkF m 5 #[.val (.ref a)] [(.ref a)]))
  obtain ⟨T2, h2, X2, e2, E2, A2, D2, -, st2⟩ := newO X1 hx hZ hown (hw _ (List.mem_of_getElem? (i := 150) rfl)) (hw _ (List.mem_of_getElem? (i := 73) rfl)) (hw _ (List.mem_of_getElem? (i := 74) rfl)) e1 (g := (mkF m 5 #[.val (.ref a)] [(.ref a)])) rfl (hb hby d21_5) (by decide) (by decide)
  obtain ⟨b2, g2⟩ : ∃ z, z = h0.size := ⟨_, rfl⟩
  rw [← g2] at A2 D2 st2
  have ne_a_b2 : a ≠ b2 := Nat.ne_of_lt (Nat.lt_of_lt_of_le F0.lt (Nat.le_of_eq g2.symm))
  have gn_b2 : n0 ≤ b2 := Nat.le_trans Z0 (Nat.le_of_eq g2.symm)
  have sz_b2 : h0.size ≤ b2 := Nat.le_trans (Keep.refl h0 [a]).1 (Nat.le_of_eq g2.symm)
  have F0_3 := (F0.ext E2)
  have F1_4 := (F1.ext E2)
  have F2_5 := (F2.ext E2)
  have Ex_6 := (Ex.ext E2)
  have ZS2 : n0 ≤ h2.size := Nat.le_trans Z0 E2.1
  have KC2 : Keep h0 h2 [a] := (Keep.refl h0 [a]).ext E2
  have Fmap_b2 : Fld Z h2 b2 "java/util/HashSet" "map" "Ljava/util/HashMap;" .null := D2 (Or.inl (hw _ (List.mem_of_getElem? (i := 140) rfl))) (ty := (.object "java/util/HashMap")) (by decide)
  refine OGo.step (fun uK kK => st2 uK kK) ?_
  show OGo p e below _ (T2.setTop (mkF m 8 #[.val (.ref a)] [(.ref b2), (.ref a)]))
  refine OGo.step (fun uK kK => XS.dup X2.here hx rfl (hb hby d21_8) rfl rfl kK) ?_
  show OGo p e below _ (T2.setTop (mkF m 9 #[.val (.ref a)] [(.ref b2), (.ref b2), (.ref a)]))
  obtain ⟨_, _, ⟨T7, Lq7, kq_7, nq_7⟩, -, X7, ⟨Lc7, hQ7, lq7, yq7, zq7⟩, st7⟩ := X2.specialBack hx (y := (⟨"java/util/LinkedHashSet", "<init>", "()V"⟩ : MethodName)) rfl hown (mvT hZ (hw _ (List.mem_of_getElem? (i := 151) rfl))) (mvT hZ (hw _ (List.mem_of_getElem? (i := 76) rfl))) (mvT hZ (hw _ (List.mem_of_getElem? (i := 77) rfl))) (by decide) (backOf (W := 2) (rmls l Z a0 hw [] b2  h2 n0 ZS2 Fmap_b2 A2 gn_b2) hZ (hw _ (List.mem_of_getElem? (i := 77) rfl)) (hw _ (List.mem_of_getElem? (i := 74) rfl)) (by decide) (by decide)) (g := (mkF m 9 #[.val (.ref a)] [(.ref b2), (.ref b2), (.ref a)])) rfl (by rw [hml]; rfl) (Steps.refl _) (a := b2) (argsL := []) (rest := [(.ref b2), (.ref a)]) (lenOf pdnd_0 rfl) rfl (by show 2 * 0 + _ ≤ _; exact Nat.le_of_eq rfl) (hb hby d21_9) (fun _ _ => ⟨rfl, e2, (by decide : 1 + 1 ≤ _), (by decide : 1 + 12 ≤ _)⟩)
  dsimp only [Pt.U, Pt.locs, Pt.cells, Pt.slots] at X7 lq7 yq7 zq7 st7 hQ7
  subst lq7 yq7 zq7
  obtain ⟨rfl, Nq7, K7⟩ := hQ7
  have F0_8 := (F0_3.keep K7 (ninS ne_a_b2 nin0))
  have F1_9 := (F1_4.keep K7 (ninS ne_a_b2 nin0))
  have F2_10 := (F2_5.keep K7 (ninS ne_a_b2 nin0))
  have Ex_11 := (Ex_6.keep K7)
  have A2_12 := (A2.keep K7)
  have ZS7 : n0 ≤ T7.heap.size := Nat.le_trans ZS2 K7.1
  have KC7 : Keep h0 T7.heap [a] := KC2.trans K7 (allS (Or.inr sz_b2) all0)
  have N7 := Fr.app N0 Nq7
  refine OGo.steps st7 ?_
  show OGo p e below _ (T7.setTop (mkF m 12 #[.val (.ref a)] [(.ref b2), (.ref a)]))
  obtain ⟨T14, h14, X14, e14, W14, st14⟩ := putF X7 hx hZ hown (host := "") (Or.inl (hw _ (List.mem_of_getElem? (i := 152) rfl))) Via.refl rfl F0_8 Ex_11 (Or.inl (hw _ (List.mem_of_getElem? (i := 153) rfl))) (hw _ (List.mem_of_getElem? (i := 144) rfl)) (ty := (.object "java/util/Set")) (by decide) rfl rfl (g := (mkF m 12 #[.val (.ref a)] [(.ref b2), (.ref a)])) rfl rfl (hb hby d21_12)
  have Fw14 := F0_8.same W14
  have F1_16 := (F1_9.other W14 (Or.inr (slot_ne (Or.inl (hw _ (List.mem_of_getElem? (i := 164) rfl))) (Or.inl (hw _ (List.mem_of_getElem? (i := 153) rfl))) (by decide) (t := (.object "java/util/Map")) (t' := (.object "java/util/Set")) (by decide) (by decide))))
  have F2_17 := (F2_10.other W14 (Or.inr (slot_ne (Or.inl (hw _ (List.mem_of_getElem? (i := 166) rfl))) (Or.inl (hw _ (List.mem_of_getElem? (i := 153) rfl))) (by decide) (t := .int) (t' := (.object "java/util/Set")) (by decide) (by decide))))
  have Ex_18 := (Ex_11.wr W14)
  have A2_19 := (A2_12.wr W14)
  have ZS14 : n0 ≤ h14.size := Nat.le_trans ZS7 (Keep.of_wr W14).1
  have KC14 : Keep h0 h14 [a] := KC7.wr W14 (Or.inl (List.mem_of_getElem? (i := 0) rfl))
  have N14 := Fr.snoc X14 N7 ga
  refine OGo.step (fun uK kK => st14 uK kK) ?_
  show OGo p e below _ (T14.setTop (mkF m 15 #[.val (.ref a)] []))
  refine OGo.step (fun uK kK => XS.aloadN X14.here hx rfl (hb hby d21_15) rfl rfl kK) ?_
  show OGo p e below _ (T14.setTop (mkF m 16 #[.val (.ref a)] [(.ref a)]))
  obtain ⟨T20, h20, X20, e20, E20, A20, D20, -, st20⟩ := newO X14 hx hZ hown (hw _ (List.mem_of_getElem? (i := 154) rfl)) (hw _ (List.mem_of_getElem? (i := 99) rfl)) (hw _ (List.mem_of_getElem? (i := 100) rfl)) e14 (g := (mkF m 16 #[.val (.ref a)] [(.ref a)])) rfl (hb hby d21_16) (by decide) (by decide)
  obtain ⟨b20, g20⟩ : ∃ z, z = h14.size := ⟨_, rfl⟩
  rw [← g20] at A20 D20 st20
  have ne_a_b20 : a ≠ b20 := Nat.ne_of_lt (Nat.lt_of_lt_of_le F1_16.lt (Nat.le_of_eq g20.symm))
  have ne_b2_b20 : b2 ≠ b20 := Nat.ne_of_lt (Nat.lt_of_lt_of_le A2_19.lt (Nat.le_of_eq g20.symm))
  have gn_b20 : n0 ≤ b20 := Nat.le_trans ZS14 (Nat.le_of_eq g20.symm)
  have sz_b20 : h0.size ≤ b20 := Nat.le_trans KC14.1 (Nat.le_of_eq g20.symm)
  have F1_21 := (F1_16.ext E20)
  have F2_22 := (F2_17.ext E20)
  have Ex_23 := (Ex_18.ext E20)
  have A2_24 := (A2_19.ext E20)
  have Fw14_25 := (Fw14.ext E20)
  have ZS20 : n0 ≤ h20.size := Nat.le_trans ZS14 E20.1
  have KC20 : Keep h0 h20 [a] := KC14.ext E20
  have FloadFactor_b20 : Fld Z h20 b20 "java/util/HashMap" "loadFactor" "F" (.float (0 : UInt32)) := D20 (Or.inr (hw _ (List.mem_of_getElem? (i := 124) rfl))) (ty := .float) (by decide)
  have Fthreshold_b20 : Fld Z h20 b20 "java/util/HashMap" "threshold" "I" (.int (0 : Int32)) := D20 (Or.inl (hw _ (List.mem_of_getElem? (i := 134) rfl))) (ty := .int) (by decide)
  have FputMode_b20 : Fld Z h20 b20 "java/util/LinkedHashMap" "putMode" "I" (.int (0 : Int32)) := D20 (Or.inl (hw _ (List.mem_of_getElem? (i := 136) rfl))) (ty := .int) (by decide)
  have FaccessOrder_b20 : Fld Z h20 b20 "java/util/LinkedHashMap" "accessOrder" "Z" (.int (0 : Int32)) := D20 (Or.inr (hw _ (List.mem_of_getElem? (i := 138) rfl))) (ty := .boolean) (by decide)
  refine OGo.step (fun uK kK => st20 uK kK) ?_
  show OGo p e below _ (T20.setTop (mkF m 19 #[.val (.ref a)] [(.ref b20), (.ref a)]))
  refine OGo.step (fun uK kK => XS.dup X20.here hx rfl (hb hby d21_19) rfl rfl kK) ?_
  show OGo p e below _ (T20.setTop (mkF m 20 #[.val (.ref a)] [(.ref b20), (.ref b20), (.ref a)]))
  obtain ⟨_, _, ⟨T26, Lq26, kq_26, nq_26⟩, -, X26, ⟨Lc26, hQ26, lq26, yq26, zq26⟩, st26⟩ := X20.specialBack hx (y := (⟨"java/util/LinkedHashMap", "<init>", "()V"⟩ : MethodName)) rfl hown (mvT hZ (hw _ (List.mem_of_getElem? (i := 155) rfl))) (mvT hZ (hw _ (List.mem_of_getElem? (i := 156) rfl))) (mvT hZ (hw _ (List.mem_of_getElem? (i := 157) rfl))) (by decide) (backOf (W := 2) (rmln l Z a0 hw [] b20  h20 n0 ZS20 FloadFactor_b20 Fthreshold_b20 FputMode_b20 FaccessOrder_b20 A20 gn_b20) hZ (hw _ (List.mem_of_getElem? (i := 157) rfl)) (hw _ (List.mem_of_getElem? (i := 100) rfl)) (by decide) (by decide)) (g := (mkF m 20 #[.val (.ref a)] [(.ref b20), (.ref b20), (.ref a)])) rfl (by rw [hml]; rfl) (Steps.refl _) (a := b20) (argsL := []) (rest := [(.ref b20), (.ref a)]) (lenOf pdnd_0 rfl) rfl (by show 2 * 0 + _ ≤ _; exact Nat.le_of_eq rfl) (hb hby d21_20) (fun _ _ => ⟨rfl, e20, (by decide : 3 + 0 ≤ _), (by decide : 25 + 0 ≤ _)⟩)
  dsimp only [Pt.U, Pt.locs, Pt.cells, Pt.slots] at X26 lq26 yq26 zq26 st26 hQ26
  subst lq26 yq26 zq26
  obtain ⟨rfl, Nq26, K26⟩ := hQ26
  have F1_27 := (F1_21.keep K26 (ninS ne_a_b20 nin0))
  have F2_28 := (F2_22.keep K26 (ninS ne_a_b20 nin0))
  have Ex_29 := (Ex_23.keep K26)
  have A2_30 := (A2_24.keep K26)
  have Fw14_31 := (Fw14_25.keep K26 (ninS ne_a_b20 nin0))
  have A20_32 := (A20.keep K26)
  have ZS26 : n0 ≤ T26.heap.size := Nat.le_trans ZS20 K26.1
  have KC26 : Keep h0 T26.heap [a] := KC20.trans K26 (allS (Or.inr sz_b20) all0)
  have N26 := Fr.app N14 Nq26
  refine OGo.steps st26 ?_
  show OGo p e below _ (T26.setTop (mkF m 23 #[.val (.ref a)] [(.ref b20), (.ref a)]))
  obtain ⟨T37, h37, X37, e37, W37, st37⟩ := putF X26 hx hZ hown (host := "") (Or.inl (hw _ (List.mem_of_getElem? (i := 163) rfl))) Via.refl rfl F1_27 Ex_29 (Or.inl (hw _ (List.mem_of_getElem? (i := 164) rfl))) (hw _ (List.mem_of_getElem? (i := 144) rfl)) (ty := (.object "java/util/Map")) (by decide) rfl rfl (g := (mkF m 23 #[.val (.ref a)] [(.ref b20), (.ref a)])) rfl rfl (hb hby d21_23)
  have Fw37 := F1_27.same W37
  have F2_39 := (F2_28.other W37 (Or.inr (slot_ne (Or.inl (hw _ (List.mem_of_getElem? (i := 166) rfl))) (Or.inl (hw _ (List.mem_of_getElem? (i := 164) rfl))) (by decide) (t := .int) (t' := (.object "java/util/Map")) (by decide) (by decide))))
  have Ex_40 := (Ex_29.wr W37)
  have A2_41 := (A2_30.wr W37)
  have Fw14_42 := (Fw14_31.other W37 (Or.inr (slot_ne (Or.inl (hw _ (List.mem_of_getElem? (i := 153) rfl))) (Or.inl (hw _ (List.mem_of_getElem? (i := 164) rfl))) (by decide) (t := (.object "java/util/Set")) (t' := (.object "java/util/Map")) (by decide) (by decide))))
  have A20_43 := (A20_32.wr W37)
  have ZS37 : n0 ≤ h37.size := Nat.le_trans ZS26 (Keep.of_wr W37).1
  have KC37 : Keep h0 h37 [a] := KC26.wr W37 (Or.inl (List.mem_of_getElem? (i := 0) rfl))
  have N37 := Fr.snoc X37 N26 ga
  refine OGo.step (fun uK kK => st37 uK kK) ?_
  show OGo p e below _ (T37.setTop (mkF m 26 #[.val (.ref a)] []))
  refine OGo.step (fun uK kK => XS.aloadN X37.here hx rfl (hb hby d21_26) rfl rfl kK) ?_
  show OGo p e below _ (T37.setTop (mkF m 27 #[.val (.ref a)] [(.ref a)]))
  refine OGo.step (fun uK kK => XS.iconst X37.here hx rfl (hb hby d21_27) kK) ?_
  show OGo p e below _ (T37.setTop (mkF m 28 #[.val (.ref a)] [(.int (-1 : Int32)), (.ref a)]))
  obtain ⟨T44, h44, X44, e44, W44, st44⟩ := putF X37 hx hZ hown (host := "") (Or.inl (hw _ (List.mem_of_getElem? (i := 165) rfl))) Via.refl e37 F2_39 Ex_40 (Or.inl (hw _ (List.mem_of_getElem? (i := 166) rfl))) (hw _ (List.mem_of_getElem? (i := 144) rfl)) (ty := .int) (by decide) rfl rfl (g := (mkF m 28 #[.val (.ref a)] [(.int (-1 : Int32)), (.ref a)])) rfl rfl (hb hby d21_28)
  have Fw44 := F2_39.same W44
  have Ex_46 := (Ex_40.wr W44)
  have A2_47 := (A2_41.wr W44)
  have Fw14_48 := (Fw14_42.other W44 (Or.inr (slot_ne (Or.inl (hw _ (List.mem_of_getElem? (i := 153) rfl))) (Or.inl (hw _ (List.mem_of_getElem? (i := 166) rfl))) (by decide) (t := (.object "java/util/Set")) (t' := .int) (by decide) (by decide))))
  have A20_49 := (A20_43.wr W44)
  have Fw37_50 := (Fw37.other W44 (Or.inr (slot_ne (Or.inl (hw _ (List.mem_of_getElem? (i := 164) rfl))) (Or.inl (hw _ (List.mem_of_getElem? (i := 166) rfl))) (by decide) (t := (.object "java/util/Map")) (t' := .int) (by decide) (by decide))))
  have ZS44 : n0 ≤ h44.size := Nat.le_trans ZS37 (Keep.of_wr W44).1
  have KC44 : Keep h0 h44 [a] := KC37.wr W44 (Or.inl (List.mem_of_getElem? (i := 0) rfl))
  have N44 := Fr.snoc X44 N37 ga
  refine OGo.step (fun uK kK => st44 uK kK) ?_
  show OGo p e below _ (T44.setTop (mkF m 31 #[.val (.ref a)] []))
  exact OGo.retV X44 hx Bd.notSynchronized Bd.returns (hb hby d21_31) (by decide) (by decide) (by show Qnd Z a h0 n0 _ T44.heap _; rw [e44]; exact ⟨rfl, N44, KC44⟩)
theorem d8_0 : decode prog_62_method_1_code 0 = .ok (.aload_n 0, 1) := by decide +kernel
theorem d8_1 : decode prog_62_method_1_code 1 = .ok (.invokespecial 1, 3) := by decide +kernel
theorem d8_4 : decode prog_62_method_1_code 4 = .ok (.aload_n 0, 1) := by decide +kernel
theorem d8_5 : decode prog_62_method_1_code 5 = .ok (.getstatic 7, 3) := by decide +kernel
theorem d8_8 : decode prog_62_method_1_code 8 = .ok (.putfield 13, 3) := by decide +kernel
theorem d8_11 : decode prog_62_method_1_code 11 = .ok (.aload_n 0, 1) := by decide +kernel
theorem d8_12 : decode prog_62_method_1_code 12 = .ok (.ldc2_w 18, 3) := by decide +kernel
theorem d8_15 : decode prog_62_method_1_code 15 = .ok (.putfield 20, 3) := by decide +kernel
theorem d8_18 : decode prog_62_method_1_code 18 = .ok (.aload_n 0, 1) := by decide +kernel
theorem d8_19 : decode prog_62_method_1_code 19 = .ok (.ldc2_w 18, 3) := by decide +kernel
theorem d8_22 : decode prog_62_method_1_code 22 = .ok (.putfield 24, 3) := by decide +kernel
theorem d8_25 : decode prog_62_method_1_code 25 = .ok (.aload_n 0, 1) := by decide +kernel
theorem d8_26 : decode prog_62_method_1_code 26 = .ok (.new 27, 3) := by decide +kernel
theorem d8_29 : decode prog_62_method_1_code 29 = .ok (.dup, 1) := by decide +kernel
theorem d8_30 : decode prog_62_method_1_code 30 = .ok (.invokespecial 29, 3) := by decide +kernel
theorem d8_33 : decode prog_62_method_1_code 33 = .ok (.putfield 30, 3) := by decide +kernel
theorem d8_36 : decode prog_62_method_1_code 36 = .ok (.aload_n 0, 1) := by decide +kernel
theorem d8_37 : decode prog_62_method_1_code 37 = .ok (.new 34, 3) := by decide +kernel
theorem d8_40 : decode prog_62_method_1_code 40 = .ok (.dup, 1) := by decide +kernel
theorem d8_41 : decode prog_62_method_1_code 41 = .ok (.invokespecial 36, 3) := by decide +kernel
theorem d8_44 : decode prog_62_method_1_code 44 = .ok (.putfield 37, 3) := by decide +kernel
theorem d8_47 : decode prog_62_method_1_code 47 = .ok (.aload_n 0, 1) := by decide +kernel
theorem d8_48 : decode prog_62_method_1_code 48 = .ok (.new 41, 3) := by decide +kernel
theorem d8_51 : decode prog_62_method_1_code 51 = .ok (.dup, 1) := by decide +kernel
theorem d8_52 : decode prog_62_method_1_code 52 = .ok (.invokespecial 43, 3) := by decide +kernel
theorem d8_55 : decode prog_62_method_1_code 55 = .ok (.putfield 44, 3) := by decide +kernel
theorem d8_58 : decode prog_62_method_1_code 58 = .ok (.aload_n 0, 1) := by decide +kernel
theorem d8_59 : decode prog_62_method_1_code 59 = .ok (.aload_n 1, 1) := by decide +kernel
theorem d8_60 : decode prog_62_method_1_code 60 = .ok (.putfield 48, 3) := by decide +kernel
theorem d8_63 : decode prog_62_method_1_code 63 = .ok (.aload_n 0, 1) := by decide +kernel
theorem d8_64 : decode prog_62_method_1_code 64 = .ok (.aload_n 2, 1) := by decide +kernel
theorem d8_65 : decode prog_62_method_1_code 65 = .ok (.putfield 52, 3) := by decide +kernel
theorem d8_68 : decode prog_62_method_1_code 68 = .ok (.aload_n 0, 1) := by decide +kernel
theorem d8_69 : decode prog_62_method_1_code 69 = .ok (.aload_n 2, 1) := by decide +kernel
theorem d8_70 : decode prog_62_method_1_code 70 = .ok (.invokevirtual 56, 3) := by decide +kernel
theorem d8_73 : decode prog_62_method_1_code 73 = .ok (.putfield 62, 3) := by decide +kernel
theorem d8_76 : decode prog_62_method_1_code 76 = .ok (.return_, 1) := by decide +kernel
theorem pntr : plainName "com/example/graph_of_conflicts/graphofconflicts/engine/Transaction" = true := by first | (simp [plainName, overriddenIn]; done) | decide +kernel
theorem pdtr_0 : parseMethodDescriptor "()V" = some ⟨[], none⟩ := by decide +kernel
theorem pdtr_1 : parseMethodDescriptor "()I" = some ⟨[], some .int⟩ := by decide +kernel
theorem eftr (m : MethodId) (x0 : Addr) (x1 : Addr) (x2 : Addr) : entryFrame m #[(.ref x0), (.ref x1), (.ref x2)] 3 = mkF m 0 #[.val (.ref x0), .val (.ref x1), .val (.ref x2)] [] := by first | (simp [entryFrame, mkF, argsToLocals, Value.category]; done) | rfl
def Qtr (Z : State) (a : Addr) (lv : Addr) (st : Addr) (aV : Addr) (kV : ClassId) (b0 : Int32) (cs : Int32) (aE : Addr) (aA : Addr) (h0 : Heap) (n0 : Nat) (v : Option Value) (h : Heap) (L : List Loc) : Prop := v = none ∧ Fr n0 L ∧ Keep h0 h [a, st] ∧ Fld Z h a "com/example/graph_of_conflicts/graphofconflicts/engine/Transaction" "start" "J" (.long (-1 : Int64)) ∧ Fld Z h a "com/example/graph_of_conflicts/graphofconflicts/engine/Transaction" "snapshot" "J" (.long (-1 : Int64))
set_option maxRecDepth 65536 in
set_option maxHeartbeats 40000000 in
theorem rmtr (l : Launch) (Z : State) (a0 : Array Value) (hw : ∀ d ∈ tables_1, d.before a0 Z = true) (ws : List Jvm.Cond) (a : Addr) (lv : Addr) (st : Addr) (aV : Addr) (kV : ClassId) (b0 : Int32) (cs : Int32) (aE : Addr) (aA : Addr) (h0 : Heap) (n0 : Nat) (Z0 : n0 ≤ h0.size) (F0 : Fld Z h0 a "com/example/graph_of_conflicts/graphofconflicts/engine/Transaction" "state" "Lcom/example/graph_of_conflicts/graphofconflicts/api/TransactionState;" .null) (F1 : Fld Z h0 a "com/example/graph_of_conflicts/graphofconflicts/engine/Transaction" "start" "J" (.long (0 : Int64))) (F2 : Fld Z h0 a "com/example/graph_of_conflicts/graphofconflicts/engine/Transaction" "snapshot" "J" (.long (0 : Int64))) (F3 : Fld Z h0 a "com/example/graph_of_conflicts/graphofconflicts/engine/Transaction" "writtenKeys" "Lcom/example/graph_of_conflicts/graphofconflicts/engine/KeysByTable;" .null) (F4 : Fld Z h0 a "com/example/graph_of_conflicts/graphofconflicts/engine/Transaction" "lockedTables" "Ljava/util/Set;" .null) (F5 : Fld Z h0 a "com/example/graph_of_conflicts/graphofconflicts/engine/Transaction" "node" "Lcom/example/graph_of_conflicts/graphofconflicts/engine/Node;" .null) (F6 : Fld Z h0 a "com/example/graph_of_conflicts/graphofconflicts/engine/Transaction" "level" "Lcom/example/graph_of_conflicts/graphofconflicts/api/IsolationLevel;" .null) (F7 : Fld Z h0 a "com/example/graph_of_conflicts/graphofconflicts/engine/Transaction" "label" "Ljava/lang/String;" .null) (F8 : Fld Z h0 a "com/example/graph_of_conflicts/graphofconflicts/engine/Transaction" "hash" "I" (.int (0 : Int32))) (Ex : Exa Z h0 a "com/example/graph_of_conflicts/graphofconflicts/engine/Transaction") (ga : n0 ≤ a) (Gvalue : Fld Z h0 st "java/lang/String" "value" "[B" (.ref aV)) (Gcoder : Fld Z h0 st "java/lang/String" "coder" "B" (.int (0 : Int32))) (Ghash : Fld Z h0 st "java/lang/String" "hash" "I" (.int (0 : Int32))) (GhashIsZero : Fld Z h0 st "java/lang/String" "hashIsZero" "Z" (.int (0 : Int32))) (Vb : Arv Z h0 aV kV .byte (1 : Int32) [(.int b0)] (.int (0 : Int32))) (Es : Exa Z h0 st "java/lang/String") (gst : n0 ≤ st) (neV : st ≠ aV) (neS : a ≠ st) (neA : a ≠ aV) (SCS : Sta Z Z.heap "java/lang/String" "COMPACT_STRINGS" "Z" (.int cs)) (hcs : ¬ (cs = (0 : Int32))) (SES : Sta Z Z.heap "java/util/ImmutableCollections" "EMPTY_SET" "Ljava/util/ImmutableCollections$SetN;" (.ref aE)) (SAC : Sta Z Z.heap "com/example/graph_of_conflicts/graphofconflicts/api/TransactionState" "ACTIVE" "Lcom/example/graph_of_conflicts/graphofconflicts/api/TransactionState;" (.ref aA)) (Od : Old Z n0 h0) :
    MetFree l (⟨"com/example/graph_of_conflicts/graphofconflicts/engine/Transaction", "<init>", "(Lcom/example/graph_of_conflicts/graphofconflicts/api/IsolationLevel;Ljava/lang/String;)V"⟩ : MethodName) (head1 (Jvm.Cond.code (⟨"com/example/graph_of_conflicts/graphofconflicts/engine/Transaction", "<init>", "(Lcom/example/graph_of_conflicts/graphofconflicts/api/IsolationLevel;Ljava/lang/String;)V"⟩ : MethodName) prog_62_method_1_code 3 none :: ws) ({ frames := 7, cells := 7, slots := 54, locals := 106 } : Room)) (fun aQ UQ => aQ = #[(.ref a), (.ref lv), (.ref st)] ∧ Z.Warmed39 UQ.vm ∧ UQ.heap = h0) (fun _ _ _ _ _ => True) (fun _ U o U' => ∃ v L, o = .returned v ∧ Qtr Z a lv st aV kV b0 cs aE aA h0 n0 v U'.heap L ∧ FrameEnd U o U' L ({ frames := 7, cells := 7, slots := 54, locals := 106 } : Room).cells ({ frames := 7, cells := 7, slots := 54, locals := 106 } : Room).slots) := by
  refine MetFree.of_bodySF (plainFor_of_name pntr) hisR ?_
  intro p e s m args below meth c s₁ Bd hml0 hP hK
  obtain ⟨rfl, hZ, hh⟩ := hP
  have hx := Bd.exec
  have hby := Bd.bytes
  have hml : c.maxLocals = 3 := hml0
  have hown : s.vm.findClass "com/example/graph_of_conflicts/graphofconflicts/engine/Transaction" = some m.cls := findClass_of_methodNamed Bd.named
  have hnm := (name_of_methodNamed Bd.named Bd.method).1
  have X0 : Stand p l e ({ frames := 7, cells := 7, slots := 54, locals := 106 } : Room) s m #[(.ref a), (.ref lv), (.ref st)] below meth c s₁ [] 0 0 := Stand.of_body Bd
  have e0 : s₁.heap = h0 := by rw [← hh, Bd.state]; rfl
  have N0 := Fr.nil n0
  show OGo p e below (OPost s (Qtr Z a lv st aV kV b0 cs aE aA h0 n0) ({ frames := 7, cells := 7, slots := 54, locals := 106 } : Room).cells ({ frames := 7, cells := 7, slots := 54, locals := 106 } : Room).slots) (s₁.setTop (entryFrame m #[(.ref a), (.ref lv), (.ref st)] 3))
  refine OGo.step (fun uK kK => castTop (eftr m a lv st) kK) ?_
  show OGo p e below _ (s₁.setTop (mkF m 0 #[.val (.ref a), .val (.ref lv), .val (.ref st)] []))
  refine OGo.step (fun uK kK => XS.aloadN X0.here hx rfl (hb hby d8_0) rfl rfl kK) ?_
  show OGo p e below _ (s₁.setTop (mkF m 1 #[.val (.ref a), .val (.ref lv), .val (.ref st)] [(.ref a)]))
  obtain ⟨T1, X1, e1, st1⟩ := initO X0 hx hZ hown (hw _ (List.mem_of_getElem? (i := 44) rfl)) (hw _ (List.mem_of_getElem? (i := 23) rfl)) (hw _ (List.mem_of_getElem? (i := 24) rfl)) e0 (g := (mkF m 1 #[.val (.ref a), .val (.ref lv), .val (.ref st)] [(.ref a)])) rfl (by rw [hml]; rfl) rfl (hb hby d8_1) (by decide) (W := 0) (by show 2 * 0 + _ ≤ _; exact Nat.le_of_eq rfl) (by decide)
  refine OGo.step (fun uK kK => st1 uK kK) ?_
  show OGo p e below _ (T1.setTop (mkF m 4 #[.val (.ref a), .val (.ref lv), .val (.ref st)] []))
  refine OGo.step (fun uK kK => XS.aloadN X1.here hx rfl (hb hby d8_4) rfl rfl kK) ?_
  show OGo p e below _ (T1.setTop (mkF m 5 #[.val (.ref a), .val (.ref lv), .val (.ref st)] [(.ref a)]))
  obtain ⟨T2, X2, e2, st2⟩ := getS2 X1 hx hZ hown (host := "") (Or.inl (hw _ (List.mem_of_getElem? (i := 45) rfl))) Via.refl e1 (SAC.ext Od.2) (g := (mkF m 5 #[.val (.ref a), .val (.ref lv), .val (.ref st)] [(.ref a)])) rfl (hb hby d8_5)
  refine OGo.step (fun uK kK => st2 uK kK) ?_
  show OGo p e below _ (T2.setTop (mkF m 8 #[.val (.ref a), .val (.ref lv), .val (.ref st)] [(.ref aA), (.ref a)]))
  obtain ⟨T3, h3, X3, e3, W3, st3⟩ := putF X2 hx hZ hown (host := "") (Or.inl (hw _ (List.mem_of_getElem? (i := 48) rfl))) Via.refl e2 F0 Ex (Or.inl (hw _ (List.mem_of_getElem? (i := 49) rfl))) (hw _ (List.mem_of_getElem? (i := 3) rfl)) (ty := (.object "com/example/graph_of_conflicts/graphofconflicts/api/TransactionState")) (by decide) rfl rfl (g := (mkF m 8 #[.val (.ref a), .val (.ref lv), .val (.ref st)] [(.ref aA), (.ref a)])) rfl rfl (hb hby d8_8)
  have Fw3 := F0.same W3
  have F1_5 := (F1.other W3 (Or.inr (slot_ne (Or.inl (hw _ (List.mem_of_getElem? (i := 52) rfl))) (Or.inl (hw _ (List.mem_of_getElem? (i := 49) rfl))) (by decide) (t := .long) (t' := (.object "com/example/graph_of_conflicts/graphofconflicts/api/TransactionState")) (by decide) (by decide))))
  have F2_6 := (F2.other W3 (Or.inr (slot_ne (Or.inl (hw _ (List.mem_of_getElem? (i := 54) rfl))) (Or.inl (hw _ (List.mem_of_getElem? (i := 49) rfl))) (by decide) (t := .long) (t' := (.object "com/example/graph_of_conflicts/graphofconflicts/api/TransactionState")) (by decide) (by decide))))
  have F3_7 := (F3.other W3 (Or.inr (slot_ne (Or.inl (hw _ (List.mem_of_getElem? (i := 71) rfl))) (Or.inl (hw _ (List.mem_of_getElem? (i := 49) rfl))) (by decide) (t := (.object "com/example/graph_of_conflicts/graphofconflicts/engine/KeysByTable")) (t' := (.object "com/example/graph_of_conflicts/graphofconflicts/api/TransactionState")) (by decide) (by decide))))
  have F4_8 := (F4.other W3 (Or.inr (slot_ne (Or.inr (hw _ (List.mem_of_getElem? (i := 142) rfl))) (Or.inl (hw _ (List.mem_of_getElem? (i := 49) rfl))) (by decide) (t := (.object "java/util/Set")) (t' := (.object "com/example/graph_of_conflicts/graphofconflicts/api/TransactionState")) (by decide) (by decide))))
  have F5_9 := (F5.other W3 (Or.inr (slot_ne (Or.inr (hw _ (List.mem_of_getElem? (i := 168) rfl))) (Or.inl (hw _ (List.mem_of_getElem? (i := 49) rfl))) (by decide) (t := (.object "com/example/graph_of_conflicts/graphofconflicts/engine/Node")) (t' := (.object "com/example/graph_of_conflicts/graphofconflicts/api/TransactionState")) (by decide) (by decide))))
  have F6_10 := (F6.other W3 (Or.inr (slot_ne (Or.inr (hw _ (List.mem_of_getElem? (i := 170) rfl))) (Or.inl (hw _ (List.mem_of_getElem? (i := 49) rfl))) (by decide) (t := (.object "com/example/graph_of_conflicts/graphofconflicts/api/IsolationLevel")) (t' := (.object "com/example/graph_of_conflicts/graphofconflicts/api/TransactionState")) (by decide) (by decide))))
  have F7_11 := (F7.other W3 (Or.inr (slot_ne (Or.inr (hw _ (List.mem_of_getElem? (i := 172) rfl))) (Or.inl (hw _ (List.mem_of_getElem? (i := 49) rfl))) (by decide) (t := (.object "java/lang/String")) (t' := (.object "com/example/graph_of_conflicts/graphofconflicts/api/TransactionState")) (by decide) (by decide))))
  have F8_12 := (F8.other W3 (Or.inr (slot_ne (Or.inr (hw _ (List.mem_of_getElem? (i := 192) rfl))) (Or.inl (hw _ (List.mem_of_getElem? (i := 49) rfl))) (by decide) (t := .int) (t' := (.object "com/example/graph_of_conflicts/graphofconflicts/api/TransactionState")) (by decide) (by decide))))
  have Ex_13 := (Ex.wr W3)
  have Es_14 := (Es.wr W3)
  have Vb_15 := (Vb.other W3 (Ne.symm neA))
  have Gvalue_16 := (Gvalue.other W3 (Or.inl (Ne.symm neS)))
  have Gcoder_17 := (Gcoder.other W3 (Or.inl (Ne.symm neS)))
  have Ghash_18 := (Ghash.other W3 (Or.inl (Ne.symm neS)))
  have GhashIsZero_19 := (GhashIsZero.other W3 (Or.inl (Ne.symm neS)))
  have ZS3 : n0 ≤ h3.size := Nat.le_trans Z0 (Keep.of_wr W3).1
  have KC3 : Keep h0 h3 [a, st] := (Keep.refl h0 [a, st]).wr W3 (Or.inl (List.mem_of_getElem? (i := 0) rfl))
  have N3 := Fr.snoc X3 N0 ga
  have Od3 := Od.wr W3 ga
  refine OGo.step (fun uK kK => st3 uK kK) ?_
  show OGo p e below _ (T3.setTop (mkF m 11 #[.val (.ref a), .val (.ref lv), .val (.ref st)] []))
  refine OGo.step (fun uK kK => XS.aloadN X3.here hx rfl (hb hby d8_11) rfl rfl kK) ?_
  show OGo p e below _ (T3.setTop (mkF m 12 #[.val (.ref a), .val (.ref lv), .val (.ref st)] [(.ref a)]))
  refine OGo.step (fun uK kK => X3.ldc2J hx hown (mvT hZ (hw _ (List.mem_of_getElem? (i := 50) rfl))) rfl (hb hby d8_12) kK) ?_
  show OGo p e below _ (T3.setTop (mkF m 15 #[.val (.ref a), .val (.ref lv), .val (.ref st)] [(.long (-1 : Int64)), (.ref a)]))
  obtain ⟨T20, h20, X20, e20, W20, st20⟩ := putF X3 hx hZ hown (host := "") (Or.inl (hw _ (List.mem_of_getElem? (i := 51) rfl))) Via.refl e3 F1_5 Ex_13 (Or.inl (hw _ (List.mem_of_getElem? (i := 52) rfl))) (hw _ (List.mem_of_getElem? (i := 3) rfl)) (ty := .long) (by decide) rfl rfl (g := (mkF m 15 #[.val (.ref a), .val (.ref lv), .val (.ref st)] [(.long (-1 : Int64)), (.ref a)])) rfl rfl (hb hby d8_15)
  have Fw20 := F1_5.same W20
  have F2_22 := (F2_6.other W20 (Or.inr (slot_ne (Or.inl (hw _ (List.mem_of_getElem? (i := 54) rfl))) (Or.inl (hw _ (List.mem_of_getElem? (i := 52) rfl))) (by decide) (t := .long) (t' := .long) (by decide) (by decide))))
  have F3_23 := (F3_7.other W20 (Or.inr (slot_ne (Or.inl (hw _ (List.mem_of_getElem? (i := 71) rfl))) (Or.inl (hw _ (List.mem_of_getElem? (i := 52) rfl))) (by decide) (t := (.object "com/example/graph_of_conflicts/graphofconflicts/engine/KeysByTable")) (t' := .long) (by decide) (by decide))))
  have F4_24 := (F4_8.other W20 (Or.inr (slot_ne (Or.inr (hw _ (List.mem_of_getElem? (i := 142) rfl))) (Or.inl (hw _ (List.mem_of_getElem? (i := 52) rfl))) (by decide) (t := (.object "java/util/Set")) (t' := .long) (by decide) (by decide))))
  have F5_25 := (F5_9.other W20 (Or.inr (slot_ne (Or.inr (hw _ (List.mem_of_getElem? (i := 168) rfl))) (Or.inl (hw _ (List.mem_of_getElem? (i := 52) rfl))) (by decide) (t := (.object "com/example/graph_of_conflicts/graphofconflicts/engine/Node")) (t' := .long) (by decide) (by decide))))
  have F6_26 := (F6_10.other W20 (Or.inr (slot_ne (Or.inr (hw _ (List.mem_of_getElem? (i := 170) rfl))) (Or.inl (hw _ (List.mem_of_getElem? (i := 52) rfl))) (by decide) (t := (.object "com/example/graph_of_conflicts/graphofconflicts/api/IsolationLevel")) (t' := .long) (by decide) (by decide))))
  have F7_27 := (F7_11.other W20 (Or.inr (slot_ne (Or.inr (hw _ (List.mem_of_getElem? (i := 172) rfl))) (Or.inl (hw _ (List.mem_of_getElem? (i := 52) rfl))) (by decide) (t := (.object "java/lang/String")) (t' := .long) (by decide) (by decide))))
  have F8_28 := (F8_12.other W20 (Or.inr (slot_ne (Or.inr (hw _ (List.mem_of_getElem? (i := 192) rfl))) (Or.inl (hw _ (List.mem_of_getElem? (i := 52) rfl))) (by decide) (t := .int) (t' := .long) (by decide) (by decide))))
  have Ex_29 := (Ex_13.wr W20)
  have Es_30 := (Es_14.wr W20)
  have Vb_31 := (Vb_15.other W20 (Ne.symm neA))
  have Gvalue_32 := (Gvalue_16.other W20 (Or.inl (Ne.symm neS)))
  have Gcoder_33 := (Gcoder_17.other W20 (Or.inl (Ne.symm neS)))
  have Ghash_34 := (Ghash_18.other W20 (Or.inl (Ne.symm neS)))
  have GhashIsZero_35 := (GhashIsZero_19.other W20 (Or.inl (Ne.symm neS)))
  have Fw3_36 := (Fw3.other W20 (Or.inr (slot_ne (Or.inl (hw _ (List.mem_of_getElem? (i := 49) rfl))) (Or.inl (hw _ (List.mem_of_getElem? (i := 52) rfl))) (by decide) (t := (.object "com/example/graph_of_conflicts/graphofconflicts/api/TransactionState")) (t' := .long) (by decide) (by decide))))
  have ZS20 : n0 ≤ h20.size := Nat.le_trans ZS3 (Keep.of_wr W20).1
  have KC20 : Keep h0 h20 [a, st] := KC3.wr W20 (Or.inl (List.mem_of_getElem? (i := 0) rfl))
  have N20 := Fr.snoc X20 N3 ga
  have Od20 := Od3.wr W20 ga
  refine OGo.step (fun uK kK => st20 uK kK) ?_
  show OGo p e below _ (T20.setTop (mkF m 18 #[.val (.ref a), .val (.ref lv), .val (.ref st)] []))
  refine OGo.step (fun uK kK => XS.aloadN X20.here hx rfl (hb hby d8_18) rfl rfl kK) ?_
  show OGo p e below _ (T20.setTop (mkF m 19 #[.val (.ref a), .val (.ref lv), .val (.ref st)] [(.ref a)]))
  refine OGo.step (fun uK kK => X20.ldc2J hx hown (mvT hZ (hw _ (List.mem_of_getElem? (i := 50) rfl))) rfl (hb hby d8_19) kK) ?_
  show OGo p e below _ (T20.setTop (mkF m 22 #[.val (.ref a), .val (.ref lv), .val (.ref st)] [(.long (-1 : Int64)), (.ref a)]))
  obtain ⟨T37, h37, X37, e37, W37, st37⟩ := putF X20 hx hZ hown (host := "") (Or.inl (hw _ (List.mem_of_getElem? (i := 53) rfl))) Via.refl e20 F2_22 Ex_29 (Or.inl (hw _ (List.mem_of_getElem? (i := 54) rfl))) (hw _ (List.mem_of_getElem? (i := 3) rfl)) (ty := .long) (by decide) rfl rfl (g := (mkF m 22 #[.val (.ref a), .val (.ref lv), .val (.ref st)] [(.long (-1 : Int64)), (.ref a)])) rfl rfl (hb hby d8_22)
  have Fw37 := F2_22.same W37
  have F3_39 := (F3_23.other W37 (Or.inr (slot_ne (Or.inl (hw _ (List.mem_of_getElem? (i := 71) rfl))) (Or.inl (hw _ (List.mem_of_getElem? (i := 54) rfl))) (by decide) (t := (.object "com/example/graph_of_conflicts/graphofconflicts/engine/KeysByTable")) (t' := .long) (by decide) (by decide))))
  have F4_40 := (F4_24.other W37 (Or.inr (slot_ne (Or.inr (hw _ (List.mem_of_getElem? (i := 142) rfl))) (Or.inl (hw _ (List.mem_of_getElem? (i := 54) rfl))) (by decide) (t := (.object "java/util/Set")) (t' := .long) (by decide) (by decide))))
  have F5_41 := (F5_25.other W37 (Or.inr (slot_ne (Or.inr (hw _ (List.mem_of_getElem? (i := 168) rfl))) (Or.inl (hw _ (List.mem_of_getElem? (i := 54) rfl))) (by decide) (t := (.object "com/example/graph_of_conflicts/graphofconflicts/engine/Node")) (t' := .long) (by decide) (by decide))))
  have F6_42 := (F6_26.other W37 (Or.inr (slot_ne (Or.inr (hw _ (List.mem_of_getElem? (i := 170) rfl))) (Or.inl (hw _ (List.mem_of_getElem? (i := 54) rfl))) (by decide) (t := (.object "com/example/graph_of_conflicts/graphofconflicts/api/IsolationLevel")) (t' := .long) (by decide) (by decide))))
  have F7_43 := (F7_27.other W37 (Or.inr (slot_ne (Or.inr (hw _ (List.mem_of_getElem? (i := 172) rfl))) (Or.inl (hw _ (List.mem_of_getElem? (i := 54) rfl))) (by decide) (t := (.object "java/lang/String")) (t' := .long) (by decide) (by decide))))
  have F8_44 := (F8_28.other W37 (Or.inr (slot_ne (Or.inr (hw _ (List.mem_of_getElem? (i := 192) rfl))) (Or.inl (hw _ (List.mem_of_getElem? (i := 54) rfl))) (by decide) (t := .int) (t' := .long) (by decide) (by decide))))
  have Ex_45 := (Ex_29.wr W37)
  have Es_46 := (Es_30.wr W37)
  have Vb_47 := (Vb_31.other W37 (Ne.symm neA))
  have Gvalue_48 := (Gvalue_32.other W37 (Or.inl (Ne.symm neS)))
  have Gcoder_49 := (Gcoder_33.other W37 (Or.inl (Ne.symm neS)))
  have Ghash_50 := (Ghash_34.other W37 (Or.inl (Ne.symm neS)))
  have GhashIsZero_51 := (GhashIsZero_35.other W37 (Or.inl (Ne.symm neS)))
  have Fw3_52 := (Fw3_36.other W37 (Or.inr (slot_ne (Or.inl (hw _ (List.mem_of_getElem? (i := 49) rfl))) (Or.inl (hw _ (List.mem_of_getElem? (i := 54) rfl))) (by decide) (t := (.object "com/example/graph_of_conflicts/graphofconflicts/api/TransactionState")) (t' := .long) (by decide) (by decide))))
  have Fw20_53 := (Fw20.other W37 (Or.inr (slot_ne (Or.inl (hw _ (List.mem_of_getElem? (i := 52) rfl))) (Or.inl (hw _ (List.mem_of_getElem? (i := 54) rfl))) (by decide) (t := .long) (t' := .long) (by decide) (by decide))))
  have ZS37 : n0 ≤ h37.size := Nat.le_trans ZS20 (Keep.of_wr W37).1
  have KC37 : Keep h0 h37 [a, st] := KC20.wr W37 (Or.inl (List.mem_of_getElem? (i := 0) rfl))
  have N37 := Fr.snoc X37 N20 ga
  have Od37 := Od20.wr W37 ga
  refine OGo.step (fun uK kK => st37 uK kK) ?_
  show OGo p e below _ (T37.setTop (mkF m 25 #[.val (.ref a), .val (.ref lv), .val (.ref st)] []))
  refine OGo.step (fun uK kK => XS.aloadN X37.here hx rfl (hb hby d8_25) rfl rfl kK) ?_
  show OGo p e below _ (T37.setTop (mkF m 26 #[.val (.ref a), .val (.ref lv), .val (.ref st)] [(.ref a)]))
  obtain ⟨T54, h54, X54, e54, E54, A54, D54, -, st54⟩ := newO X37 hx hZ hown (hw _ (List.mem_of_getElem? (i := 55) rfl)) (hw _ (List.mem_of_getElem? (i := 56) rfl)) (hw _ (List.mem_of_getElem? (i := 57) rfl)) e37 (g := (mkF m 26 #[.val (.ref a), .val (.ref lv), .val (.ref st)] [(.ref a)])) rfl (hb hby d8_26) (by decide) (by decide)
  obtain ⟨b54, g54⟩ : ∃ z, z = h37.size := ⟨_, rfl⟩
  rw [← g54] at A54 D54 st54
  have ne_a_b54 : a ≠ b54 := Nat.ne_of_lt (Nat.lt_of_lt_of_le F3_39.lt (Nat.le_of_eq g54.symm))
  have ne_st_b54 : st ≠ b54 := Nat.ne_of_lt (Nat.lt_of_lt_of_le Es_46.lt (Nat.le_of_eq g54.symm))
  have ne_aV_b54 : aV ≠ b54 := Nat.ne_of_lt (Nat.lt_of_lt_of_le Vb_47.lt (Nat.le_of_eq g54.symm))
  have gn_b54 : n0 ≤ b54 := Nat.le_trans ZS37 (Nat.le_of_eq g54.symm)
  have sz_b54 : h0.size ≤ b54 := Nat.le_trans KC37.1 (Nat.le_of_eq g54.symm)
  have F3_55 := (F3_39.ext E54)
  have F4_56 := (F4_40.ext E54)
  have F5_57 := (F5_41.ext E54)
  have F6_58 := (F6_42.ext E54)
  have F7_59 := (F7_43.ext E54)
  have F8_60 := (F8_44.ext E54)
  have Ex_61 := (Ex_45.ext E54)
  have Es_62 := (Es_46.ext E54)
  have Vb_63 := (Vb_47.ext E54)
  have Gvalue_64 := (Gvalue_48.ext E54)
  have Gcoder_65 := (Gcoder_49.ext E54)
  have Ghash_66 := (Ghash_50.ext E54)
  have GhashIsZero_67 := (GhashIsZero_51.ext E54)
  have Fw3_68 := (Fw3_52.ext E54)
  have Fw20_69 := (Fw20_53.ext E54)
  have Fw37_70 := (Fw37.ext E54)
  have ZS54 : n0 ≤ h54.size := Nat.le_trans ZS37 E54.1
  have KC54 : Keep h0 h54 [a, st] := KC37.ext E54
  have Od54 := Od37.ext E54
  have Ftables_b54 : Fld Z h54 b54 "com/example/graph_of_conflicts/graphofconflicts/engine/KeysByTable" "tables" "Ljava/util/Set;" .null := D54 (Or.inl (hw _ (List.mem_of_getElem? (i := 69) rfl))) (ty := (.object "java/util/Set")) (by decide)
  refine OGo.step (fun uK kK => st54 uK kK) ?_
  show OGo p e below _ (T54.setTop (mkF m 29 #[.val (.ref a), .val (.ref lv), .val (.ref st)] [(.ref b54), (.ref a)]))
  refine OGo.step (fun uK kK => XS.dup X54.here hx rfl (hb hby d8_29) rfl rfl kK) ?_
  show OGo p e below _ (T54.setTop (mkF m 30 #[.val (.ref a), .val (.ref lv), .val (.ref st)] [(.ref b54), (.ref b54), (.ref a)]))
  obtain ⟨_, _, ⟨T71, Lq71, kq_71, nq_71⟩, -, X71, ⟨Lc71, hQ71, lq71, yq71, zq71⟩, st71⟩ := X54.specialBack hx (y := (⟨"com/example/graph_of_conflicts/graphofconflicts/engine/KeysByTable", "<init>", "()V"⟩ : MethodName)) rfl hown (mvT hZ (hw _ (List.mem_of_getElem? (i := 58) rfl))) (mvT hZ (hw _ (List.mem_of_getElem? (i := 59) rfl))) (mvT hZ (hw _ (List.mem_of_getElem? (i := 60) rfl))) (by decide) (backOf (W := 2) (rmkb l Z a0 hw [] b54 aE h54 n0 ZS54 Ftables_b54 A54 gn_b54 SES Od54) hZ (hw _ (List.mem_of_getElem? (i := 60) rfl)) (hw _ (List.mem_of_getElem? (i := 57) rfl)) (by decide) (by decide)) (g := (mkF m 30 #[.val (.ref a), .val (.ref lv), .val (.ref st)] [(.ref b54), (.ref b54), (.ref a)])) rfl (by rw [hml]; rfl) (Steps.refl _) (a := b54) (argsL := []) (rest := [(.ref b54), (.ref a)]) (lenOf pdtr_0 rfl) rfl (by show 2 * 0 + _ ≤ _; exact Nat.le_of_eq rfl) (hb hby d8_30) (fun _ _ => ⟨rfl, e54, (by decide : 1 + 0 ≤ _), (by decide : 4 + 0 ≤ _)⟩)
  dsimp only [Pt.U, Pt.locs, Pt.cells, Pt.slots] at X71 lq71 yq71 zq71 st71 hQ71
  subst lq71 yq71 zq71
  obtain ⟨rfl, Nq71, K71⟩ := hQ71
  have F3_72 := (F3_55.keep K71 (ninS ne_a_b54 nin0))
  have F4_73 := (F4_56.keep K71 (ninS ne_a_b54 nin0))
  have F5_74 := (F5_57.keep K71 (ninS ne_a_b54 nin0))
  have F6_75 := (F6_58.keep K71 (ninS ne_a_b54 nin0))
  have F7_76 := (F7_59.keep K71 (ninS ne_a_b54 nin0))
  have F8_77 := (F8_60.keep K71 (ninS ne_a_b54 nin0))
  have Ex_78 := (Ex_61.keep K71)
  have Es_79 := (Es_62.keep K71)
  have Vb_80 := (Vb_63.keep K71 (ninS ne_aV_b54 nin0))
  have Gvalue_81 := (Gvalue_64.keep K71 (ninS ne_st_b54 nin0))
  have Gcoder_82 := (Gcoder_65.keep K71 (ninS ne_st_b54 nin0))
  have Ghash_83 := (Ghash_66.keep K71 (ninS ne_st_b54 nin0))
  have GhashIsZero_84 := (GhashIsZero_67.keep K71 (ninS ne_st_b54 nin0))
  have Fw3_85 := (Fw3_68.keep K71 (ninS ne_a_b54 nin0))
  have Fw20_86 := (Fw20_69.keep K71 (ninS ne_a_b54 nin0))
  have Fw37_87 := (Fw37_70.keep K71 (ninS ne_a_b54 nin0))
  have A54_88 := (A54.keep K71)
  have ZS71 : n0 ≤ T71.heap.size := Nat.le_trans ZS54 K71.1
  have KC71 : Keep h0 T71.heap [a, st] := KC54.trans K71 (allS (Or.inr sz_b54) all0)
  have Od71 := Od54.keep K71 (allS gn_b54 all0)
  have N71 := Fr.app N37 Nq71
  refine OGo.steps st71 ?_
  show OGo p e below _ (T71.setTop (mkF m 33 #[.val (.ref a), .val (.ref lv), .val (.ref st)] [(.ref b54), (.ref a)]))
  obtain ⟨T90, h90, X90, e90, W90, st90⟩ := putF X71 hx hZ hown (host := "") (Or.inl (hw _ (List.mem_of_getElem? (i := 70) rfl))) Via.refl rfl F3_72 Ex_78 (Or.inl (hw _ (List.mem_of_getElem? (i := 71) rfl))) (hw _ (List.mem_of_getElem? (i := 3) rfl)) (ty := (.object "com/example/graph_of_conflicts/graphofconflicts/engine/KeysByTable")) (by decide) rfl rfl (g := (mkF m 33 #[.val (.ref a), .val (.ref lv), .val (.ref st)] [(.ref b54), (.ref a)])) rfl rfl (hb hby d8_33)
  have Fw90 := F3_72.same W90
  have F4_92 := (F4_73.other W90 (Or.inr (slot_ne (Or.inr (hw _ (List.mem_of_getElem? (i := 142) rfl))) (Or.inl (hw _ (List.mem_of_getElem? (i := 71) rfl))) (by decide) (t := (.object "java/util/Set")) (t' := (.object "com/example/graph_of_conflicts/graphofconflicts/engine/KeysByTable")) (by decide) (by decide))))
  have F5_93 := (F5_74.other W90 (Or.inr (slot_ne (Or.inr (hw _ (List.mem_of_getElem? (i := 168) rfl))) (Or.inl (hw _ (List.mem_of_getElem? (i := 71) rfl))) (by decide) (t := (.object "com/example/graph_of_conflicts/graphofconflicts/engine/Node")) (t' := (.object "com/example/graph_of_conflicts/graphofconflicts/engine/KeysByTable")) (by decide) (by decide))))
  have F6_94 := (F6_75.other W90 (Or.inr (slot_ne (Or.inr (hw _ (List.mem_of_getElem? (i := 170) rfl))) (Or.inl (hw _ (List.mem_of_getElem? (i := 71) rfl))) (by decide) (t := (.object "com/example/graph_of_conflicts/graphofconflicts/api/IsolationLevel")) (t' := (.object "com/example/graph_of_conflicts/graphofconflicts/engine/KeysByTable")) (by decide) (by decide))))
  have F7_95 := (F7_76.other W90 (Or.inr (slot_ne (Or.inr (hw _ (List.mem_of_getElem? (i := 172) rfl))) (Or.inl (hw _ (List.mem_of_getElem? (i := 71) rfl))) (by decide) (t := (.object "java/lang/String")) (t' := (.object "com/example/graph_of_conflicts/graphofconflicts/engine/KeysByTable")) (by decide) (by decide))))
  have F8_96 := (F8_77.other W90 (Or.inr (slot_ne (Or.inr (hw _ (List.mem_of_getElem? (i := 192) rfl))) (Or.inl (hw _ (List.mem_of_getElem? (i := 71) rfl))) (by decide) (t := .int) (t' := (.object "com/example/graph_of_conflicts/graphofconflicts/engine/KeysByTable")) (by decide) (by decide))))
  have Ex_97 := (Ex_78.wr W90)
  have Es_98 := (Es_79.wr W90)
  have Vb_99 := (Vb_80.other W90 (Ne.symm neA))
  have Gvalue_100 := (Gvalue_81.other W90 (Or.inl (Ne.symm neS)))
  have Gcoder_101 := (Gcoder_82.other W90 (Or.inl (Ne.symm neS)))
  have Ghash_102 := (Ghash_83.other W90 (Or.inl (Ne.symm neS)))
  have GhashIsZero_103 := (GhashIsZero_84.other W90 (Or.inl (Ne.symm neS)))
  have Fw3_104 := (Fw3_85.other W90 (Or.inr (slot_ne (Or.inl (hw _ (List.mem_of_getElem? (i := 49) rfl))) (Or.inl (hw _ (List.mem_of_getElem? (i := 71) rfl))) (by decide) (t := (.object "com/example/graph_of_conflicts/graphofconflicts/api/TransactionState")) (t' := (.object "com/example/graph_of_conflicts/graphofconflicts/engine/KeysByTable")) (by decide) (by decide))))
  have Fw20_105 := (Fw20_86.other W90 (Or.inr (slot_ne (Or.inl (hw _ (List.mem_of_getElem? (i := 52) rfl))) (Or.inl (hw _ (List.mem_of_getElem? (i := 71) rfl))) (by decide) (t := .long) (t' := (.object "com/example/graph_of_conflicts/graphofconflicts/engine/KeysByTable")) (by decide) (by decide))))
  have Fw37_106 := (Fw37_87.other W90 (Or.inr (slot_ne (Or.inl (hw _ (List.mem_of_getElem? (i := 54) rfl))) (Or.inl (hw _ (List.mem_of_getElem? (i := 71) rfl))) (by decide) (t := .long) (t' := (.object "com/example/graph_of_conflicts/graphofconflicts/engine/KeysByTable")) (by decide) (by decide))))
  have A54_107 := (A54_88.wr W90)
  have ZS90 : n0 ≤ h90.size := Nat.le_trans ZS71 (Keep.of_wr W90).1
  have KC90 : Keep h0 h90 [a, st] := KC71.wr W90 (Or.inl (List.mem_of_getElem? (i := 0) rfl))
  have N90 := Fr.snoc X90 N71 ga
  have Od90 := Od71.wr W90 ga
  refine OGo.step (fun uK kK => st90 uK kK) ?_
  show OGo p e below _ (T90.setTop (mkF m 36 #[.val (.ref a), .val (.ref lv), .val (.ref st)] []))
  refine OGo.step (fun uK kK => XS.aloadN X90.here hx rfl (hb hby d8_36) rfl rfl kK) ?_
  show OGo p e below _ (T90.setTop (mkF m 37 #[.val (.ref a), .val (.ref lv), .val (.ref st)] [(.ref a)]))
  obtain ⟨T108, h108, X108, e108, E108, A108, D108, -, st108⟩ := newO X90 hx hZ hown (hw _ (List.mem_of_getElem? (i := 72) rfl)) (hw _ (List.mem_of_getElem? (i := 73) rfl)) (hw _ (List.mem_of_getElem? (i := 74) rfl)) e90 (g := (mkF m 37 #[.val (.ref a), .val (.ref lv), .val (.ref st)] [(.ref a)])) rfl (hb hby d8_37) (by decide) (by decide)
  obtain ⟨b108, g108⟩ : ∃ z, z = h90.size := ⟨_, rfl⟩
  rw [← g108] at A108 D108 st108
  have ne_a_b108 : a ≠ b108 := Nat.ne_of_lt (Nat.lt_of_lt_of_le F4_92.lt (Nat.le_of_eq g108.symm))
  have ne_st_b108 : st ≠ b108 := Nat.ne_of_lt (Nat.lt_of_lt_of_le Es_98.lt (Nat.le_of_eq g108.symm))
  have ne_aV_b108 : aV ≠ b108 := Nat.ne_of_lt (Nat.lt_of_lt_of_le Vb_99.lt (Nat.le_of_eq g108.symm))
  have ne_b54_b108 : b54 ≠ b108 := Nat.ne_of_lt (Nat.lt_of_lt_of_le A54_107.lt (Nat.le_of_eq g108.symm))
  have gn_b108 : n0 ≤ b108 := Nat.le_trans ZS90 (Nat.le_of_eq g108.symm)
  have sz_b108 : h0.size ≤ b108 := Nat.le_trans KC90.1 (Nat.le_of_eq g108.symm)
  have F4_109 := (F4_92.ext E108)
  have F5_110 := (F5_93.ext E108)
  have F6_111 := (F6_94.ext E108)
  have F7_112 := (F7_95.ext E108)
  have F8_113 := (F8_96.ext E108)
  have Ex_114 := (Ex_97.ext E108)
  have Es_115 := (Es_98.ext E108)
  have Vb_116 := (Vb_99.ext E108)
  have Gvalue_117 := (Gvalue_100.ext E108)
  have Gcoder_118 := (Gcoder_101.ext E108)
  have Ghash_119 := (Ghash_102.ext E108)
  have GhashIsZero_120 := (GhashIsZero_103.ext E108)
  have Fw3_121 := (Fw3_104.ext E108)
  have Fw20_122 := (Fw20_105.ext E108)
  have Fw37_123 := (Fw37_106.ext E108)
  have A54_124 := (A54_107.ext E108)
  have Fw90_125 := (Fw90.ext E108)
  have ZS108 : n0 ≤ h108.size := Nat.le_trans ZS90 E108.1
  have KC108 : Keep h0 h108 [a, st] := KC90.ext E108
  have Od108 := Od90.ext E108
  have Fmap_b108 : Fld Z h108 b108 "java/util/HashSet" "map" "Ljava/util/HashMap;" .null := D108 (Or.inl (hw _ (List.mem_of_getElem? (i := 140) rfl))) (ty := (.object "java/util/HashMap")) (by decide)
  refine OGo.step (fun uK kK => st108 uK kK) ?_
  show OGo p e below _ (T108.setTop (mkF m 40 #[.val (.ref a), .val (.ref lv), .val (.ref st)] [(.ref b108), (.ref a)]))
  refine OGo.step (fun uK kK => XS.dup X108.here hx rfl (hb hby d8_40) rfl rfl kK) ?_
  show OGo p e below _ (T108.setTop (mkF m 41 #[.val (.ref a), .val (.ref lv), .val (.ref st)] [(.ref b108), (.ref b108), (.ref a)]))
  obtain ⟨_, _, ⟨T126, Lq126, kq_126, nq_126⟩, -, X126, ⟨Lc126, hQ126, lq126, yq126, zq126⟩, st126⟩ := X108.specialBack hx (y := (⟨"java/util/LinkedHashSet", "<init>", "()V"⟩ : MethodName)) rfl hown (mvT hZ (hw _ (List.mem_of_getElem? (i := 75) rfl))) (mvT hZ (hw _ (List.mem_of_getElem? (i := 76) rfl))) (mvT hZ (hw _ (List.mem_of_getElem? (i := 77) rfl))) (by decide) (backOf (W := 2) (rmls l Z a0 hw [] b108  h108 n0 ZS108 Fmap_b108 A108 gn_b108) hZ (hw _ (List.mem_of_getElem? (i := 77) rfl)) (hw _ (List.mem_of_getElem? (i := 74) rfl)) (by decide) (by decide)) (g := (mkF m 41 #[.val (.ref a), .val (.ref lv), .val (.ref st)] [(.ref b108), (.ref b108), (.ref a)])) rfl (by rw [hml]; rfl) (Steps.refl _) (a := b108) (argsL := []) (rest := [(.ref b108), (.ref a)]) (lenOf pdtr_0 rfl) rfl (by show 2 * 0 + _ ≤ _; exact Nat.le_of_eq rfl) (hb hby d8_41) (fun _ _ => ⟨rfl, e108, (by decide : 2 + 1 ≤ _), (by decide : 5 + 12 ≤ _)⟩)
  dsimp only [Pt.U, Pt.locs, Pt.cells, Pt.slots] at X126 lq126 yq126 zq126 st126 hQ126
  subst lq126 yq126 zq126
  obtain ⟨rfl, Nq126, K126⟩ := hQ126
  have F4_127 := (F4_109.keep K126 (ninS ne_a_b108 nin0))
  have F5_128 := (F5_110.keep K126 (ninS ne_a_b108 nin0))
  have F6_129 := (F6_111.keep K126 (ninS ne_a_b108 nin0))
  have F7_130 := (F7_112.keep K126 (ninS ne_a_b108 nin0))
  have F8_131 := (F8_113.keep K126 (ninS ne_a_b108 nin0))
  have Ex_132 := (Ex_114.keep K126)
  have Es_133 := (Es_115.keep K126)
  have Vb_134 := (Vb_116.keep K126 (ninS ne_aV_b108 nin0))
  have Gvalue_135 := (Gvalue_117.keep K126 (ninS ne_st_b108 nin0))
  have Gcoder_136 := (Gcoder_118.keep K126 (ninS ne_st_b108 nin0))
  have Ghash_137 := (Ghash_119.keep K126 (ninS ne_st_b108 nin0))
  have GhashIsZero_138 := (GhashIsZero_120.keep K126 (ninS ne_st_b108 nin0))
  have Fw3_139 := (Fw3_121.keep K126 (ninS ne_a_b108 nin0))
  have Fw20_140 := (Fw20_122.keep K126 (ninS ne_a_b108 nin0))
  have Fw37_141 := (Fw37_123.keep K126 (ninS ne_a_b108 nin0))
  have A54_142 := (A54_124.keep K126)
  have Fw90_143 := (Fw90_125.keep K126 (ninS ne_a_b108 nin0))
  have A108_144 := (A108.keep K126)
  have ZS126 : n0 ≤ T126.heap.size := Nat.le_trans ZS108 K126.1
  have KC126 : Keep h0 T126.heap [a, st] := KC108.trans K126 (allS (Or.inr sz_b108) all0)
  have Od126 := Od108.keep K126 (allS gn_b108 all0)
  have N126 := Fr.app N90 Nq126
  refine OGo.steps st126 ?_
  show OGo p e below _ (T126.setTop (mkF m 44 #[.val (.ref a), .val (.ref lv), .val (.ref st)] [(.ref b108), (.ref a)]))
  obtain ⟨T146, h146, X146, e146, W146, st146⟩ := putF X126 hx hZ hown (host := "") (Or.inl (hw _ (List.mem_of_getElem? (i := 141) rfl))) Via.refl rfl F4_127 Ex_132 (Or.inr ⟨(hw _ (List.mem_of_getElem? (i := 142) rfl)), rfl, hnm⟩) (hw _ (List.mem_of_getElem? (i := 3) rfl)) (ty := (.object "java/util/Set")) (by decide) rfl rfl (g := (mkF m 44 #[.val (.ref a), .val (.ref lv), .val (.ref st)] [(.ref b108), (.ref a)])) rfl rfl (hb hby d8_44)
  have Fw146 := F4_127.same W146
  have F5_148 := (F5_128.other W146 (Or.inr (slot_ne (Or.inr (hw _ (List.mem_of_getElem? (i := 168) rfl))) (Or.inr (hw _ (List.mem_of_getElem? (i := 142) rfl))) (by decide) (t := (.object "com/example/graph_of_conflicts/graphofconflicts/engine/Node")) (t' := (.object "java/util/Set")) (by decide) (by decide))))
  have F6_149 := (F6_129.other W146 (Or.inr (slot_ne (Or.inr (hw _ (List.mem_of_getElem? (i := 170) rfl))) (Or.inr (hw _ (List.mem_of_getElem? (i := 142) rfl))) (by decide) (t := (.object "com/example/graph_of_conflicts/graphofconflicts/api/IsolationLevel")) (t' := (.object "java/util/Set")) (by decide) (by decide))))
  have F7_150 := (F7_130.other W146 (Or.inr (slot_ne (Or.inr (hw _ (List.mem_of_getElem? (i := 172) rfl))) (Or.inr (hw _ (List.mem_of_getElem? (i := 142) rfl))) (by decide) (t := (.object "java/lang/String")) (t' := (.object "java/util/Set")) (by decide) (by decide))))
  have F8_151 := (F8_131.other W146 (Or.inr (slot_ne (Or.inr (hw _ (List.mem_of_getElem? (i := 192) rfl))) (Or.inr (hw _ (List.mem_of_getElem? (i := 142) rfl))) (by decide) (t := .int) (t' := (.object "java/util/Set")) (by decide) (by decide))))
  have Ex_152 := (Ex_132.wr W146)
  have Es_153 := (Es_133.wr W146)
  have Vb_154 := (Vb_134.other W146 (Ne.symm neA))
  have Gvalue_155 := (Gvalue_135.other W146 (Or.inl (Ne.symm neS)))
  have Gcoder_156 := (Gcoder_136.other W146 (Or.inl (Ne.symm neS)))
  have Ghash_157 := (Ghash_137.other W146 (Or.inl (Ne.symm neS)))
  have GhashIsZero_158 := (GhashIsZero_138.other W146 (Or.inl (Ne.symm neS)))
  have Fw3_159 := (Fw3_139.other W146 (Or.inr (slot_ne (Or.inl (hw _ (List.mem_of_getElem? (i := 49) rfl))) (Or.inr (hw _ (List.mem_of_getElem? (i := 142) rfl))) (by decide) (t := (.object "com/example/graph_of_conflicts/graphofconflicts/api/TransactionState")) (t' := (.object "java/util/Set")) (by decide) (by decide))))
  have Fw20_160 := (Fw20_140.other W146 (Or.inr (slot_ne (Or.inl (hw _ (List.mem_of_getElem? (i := 52) rfl))) (Or.inr (hw _ (List.mem_of_getElem? (i := 142) rfl))) (by decide) (t := .long) (t' := (.object "java/util/Set")) (by decide) (by decide))))
  have Fw37_161 := (Fw37_141.other W146 (Or.inr (slot_ne (Or.inl (hw _ (List.mem_of_getElem? (i := 54) rfl))) (Or.inr (hw _ (List.mem_of_getElem? (i := 142) rfl))) (by decide) (t := .long) (t' := (.object "java/util/Set")) (by decide) (by decide))))
  have A54_162 := (A54_142.wr W146)
  have Fw90_163 := (Fw90_143.other W146 (Or.inr (slot_ne (Or.inl (hw _ (List.mem_of_getElem? (i := 71) rfl))) (Or.inr (hw _ (List.mem_of_getElem? (i := 142) rfl))) (by decide) (t := (.object "com/example/graph_of_conflicts/graphofconflicts/engine/KeysByTable")) (t' := (.object "java/util/Set")) (by decide) (by decide))))
  have A108_164 := (A108_144.wr W146)
  have ZS146 : n0 ≤ h146.size := Nat.le_trans ZS126 (Keep.of_wr W146).1
  have KC146 : Keep h0 h146 [a, st] := KC126.wr W146 (Or.inl (List.mem_of_getElem? (i := 0) rfl))
  have N146 := Fr.snoc X146 N126 ga
  have Od146 := Od126.wr W146 ga
  refine OGo.step (fun uK kK => st146 uK kK) ?_
  show OGo p e below _ (T146.setTop (mkF m 47 #[.val (.ref a), .val (.ref lv), .val (.ref st)] []))
  refine OGo.step (fun uK kK => XS.aloadN X146.here hx rfl (hb hby d8_47) rfl rfl kK) ?_
  show OGo p e below _ (T146.setTop (mkF m 48 #[.val (.ref a), .val (.ref lv), .val (.ref st)] [(.ref a)]))
  obtain ⟨T165, h165, X165, e165, E165, A165, D165, -, st165⟩ := newO X146 hx hZ hown (hw _ (List.mem_of_getElem? (i := 143) rfl)) (hw _ (List.mem_of_getElem? (i := 144) rfl)) (hw _ (List.mem_of_getElem? (i := 145) rfl)) e146 (g := (mkF m 48 #[.val (.ref a), .val (.ref lv), .val (.ref st)] [(.ref a)])) rfl (hb hby d8_48) (by decide) (by decide)
  obtain ⟨b165, g165⟩ : ∃ z, z = h146.size := ⟨_, rfl⟩
  rw [← g165] at A165 D165 st165
  have ne_a_b165 : a ≠ b165 := Nat.ne_of_lt (Nat.lt_of_lt_of_le F5_148.lt (Nat.le_of_eq g165.symm))
  have ne_st_b165 : st ≠ b165 := Nat.ne_of_lt (Nat.lt_of_lt_of_le Es_153.lt (Nat.le_of_eq g165.symm))
  have ne_aV_b165 : aV ≠ b165 := Nat.ne_of_lt (Nat.lt_of_lt_of_le Vb_154.lt (Nat.le_of_eq g165.symm))
  have ne_b54_b165 : b54 ≠ b165 := Nat.ne_of_lt (Nat.lt_of_lt_of_le A54_162.lt (Nat.le_of_eq g165.symm))
  have ne_b108_b165 : b108 ≠ b165 := Nat.ne_of_lt (Nat.lt_of_lt_of_le A108_164.lt (Nat.le_of_eq g165.symm))
  have gn_b165 : n0 ≤ b165 := Nat.le_trans ZS146 (Nat.le_of_eq g165.symm)
  have sz_b165 : h0.size ≤ b165 := Nat.le_trans KC146.1 (Nat.le_of_eq g165.symm)
  have F5_166 := (F5_148.ext E165)
  have F6_167 := (F6_149.ext E165)
  have F7_168 := (F7_150.ext E165)
  have F8_169 := (F8_151.ext E165)
  have Ex_170 := (Ex_152.ext E165)
  have Es_171 := (Es_153.ext E165)
  have Vb_172 := (Vb_154.ext E165)
  have Gvalue_173 := (Gvalue_155.ext E165)
  have Gcoder_174 := (Gcoder_156.ext E165)
  have Ghash_175 := (Ghash_157.ext E165)
  have GhashIsZero_176 := (GhashIsZero_158.ext E165)
  have Fw3_177 := (Fw3_159.ext E165)
  have Fw20_178 := (Fw20_160.ext E165)
  have Fw37_179 := (Fw37_161.ext E165)
  have A54_180 := (A54_162.ext E165)
  have Fw90_181 := (Fw90_163.ext E165)
  have A108_182 := (A108_164.ext E165)
  have Fw146_183 := (Fw146.ext E165)
  have ZS165 : n0 ≤ h165.size := Nat.le_trans ZS146 E165.1
  have KC165 : Keep h0 h165 [a, st] := KC146.ext E165
  have Od165 := Od146.ext E165
  have Fpredecessors_b165 : Fld Z h165 b165 "com/example/graph_of_conflicts/graphofconflicts/engine/Node" "predecessors" "Ljava/util/Set;" .null := D165 (Or.inl (hw _ (List.mem_of_getElem? (i := 153) rfl))) (ty := (.object "java/util/Set")) (by decide)
  have Fsuccessors_b165 : Fld Z h165 b165 "com/example/graph_of_conflicts/graphofconflicts/engine/Node" "successors" "Ljava/util/Map;" .null := D165 (Or.inl (hw _ (List.mem_of_getElem? (i := 164) rfl))) (ty := (.object "java/util/Map")) (by decide)
  have FreachSlot_b165 : Fld Z h165 b165 "com/example/graph_of_conflicts/graphofconflicts/engine/Node" "reachSlot" "I" (.int (0 : Int32)) := D165 (Or.inl (hw _ (List.mem_of_getElem? (i := 166) rfl))) (ty := .int) (by decide)
  refine OGo.step (fun uK kK => st165 uK kK) ?_
  show OGo p e below _ (T165.setTop (mkF m 51 #[.val (.ref a), .val (.ref lv), .val (.ref st)] [(.ref b165), (.ref a)]))
  refine OGo.step (fun uK kK => XS.dup X165.here hx rfl (hb hby d8_51) rfl rfl kK) ?_
  show OGo p e below _ (T165.setTop (mkF m 52 #[.val (.ref a), .val (.ref lv), .val (.ref st)] [(.ref b165), (.ref b165), (.ref a)]))
  obtain ⟨_, _, ⟨T184, Lq184, kq_184, nq_184⟩, -, X184, ⟨Lc184, hQ184, lq184, yq184, zq184⟩, st184⟩ := X165.specialBack hx (y := (⟨"com/example/graph_of_conflicts/graphofconflicts/engine/Node", "<init>", "()V"⟩ : MethodName)) rfl hown (mvT hZ (hw _ (List.mem_of_getElem? (i := 146) rfl))) (mvT hZ (hw _ (List.mem_of_getElem? (i := 147) rfl))) (mvT hZ (hw _ (List.mem_of_getElem? (i := 148) rfl))) (by decide) (backOf (W := 2) (rmnd l Z a0 hw [] b165  h165 n0 ZS165 Fpredecessors_b165 Fsuccessors_b165 FreachSlot_b165 A165 gn_b165) hZ (hw _ (List.mem_of_getElem? (i := 148) rfl)) (hw _ (List.mem_of_getElem? (i := 145) rfl)) (by decide) (by decide)) (g := (mkF m 52 #[.val (.ref a), .val (.ref lv), .val (.ref st)] [(.ref b165), (.ref b165), (.ref a)])) rfl (by rw [hml]; rfl) (Steps.refl _) (a := b165) (argsL := []) (rest := [(.ref b165), (.ref a)]) (lenOf pdtr_0 rfl) rfl (by show 2 * 0 + _ ≤ _; exact Nat.le_of_eq rfl) (hb hby d8_52) (fun _ _ => ⟨rfl, e165, (by decide : 4 + 3 ≤ _), (by decide : 29 + 25 ≤ _)⟩)
  dsimp only [Pt.U, Pt.locs, Pt.cells, Pt.slots] at X184 lq184 yq184 zq184 st184 hQ184
  subst lq184 yq184 zq184
  obtain ⟨rfl, Nq184, K184⟩ := hQ184
  have F5_185 := (F5_166.keep K184 (ninS ne_a_b165 nin0))
  have F6_186 := (F6_167.keep K184 (ninS ne_a_b165 nin0))
  have F7_187 := (F7_168.keep K184 (ninS ne_a_b165 nin0))
  have F8_188 := (F8_169.keep K184 (ninS ne_a_b165 nin0))
  have Ex_189 := (Ex_170.keep K184)
  have Es_190 := (Es_171.keep K184)
  have Vb_191 := (Vb_172.keep K184 (ninS ne_aV_b165 nin0))
  have Gvalue_192 := (Gvalue_173.keep K184 (ninS ne_st_b165 nin0))
  have Gcoder_193 := (Gcoder_174.keep K184 (ninS ne_st_b165 nin0))
  have Ghash_194 := (Ghash_175.keep K184 (ninS ne_st_b165 nin0))
  have GhashIsZero_195 := (GhashIsZero_176.keep K184 (ninS ne_st_b165 nin0))
  have Fw3_196 := (Fw3_177.keep K184 (ninS ne_a_b165 nin0))
  have Fw20_197 := (Fw20_178.keep K184 (ninS ne_a_b165 nin0))
  have Fw37_198 := (Fw37_179.keep K184 (ninS ne_a_b165 nin0))
  have A54_199 := (A54_180.keep K184)
  have Fw90_200 := (Fw90_181.keep K184 (ninS ne_a_b165 nin0))
  have A108_201 := (A108_182.keep K184)
  have Fw146_202 := (Fw146_183.keep K184 (ninS ne_a_b165 nin0))
  have A165_203 := (A165.keep K184)
  have ZS184 : n0 ≤ T184.heap.size := Nat.le_trans ZS165 K184.1
  have KC184 : Keep h0 T184.heap [a, st] := KC165.trans K184 (allS (Or.inr sz_b165) all0)
  have Od184 := Od165.keep K184 (allS gn_b165 all0)
  have N184 := Fr.app N146 Nq184
  refine OGo.steps st184 ?_
  show OGo p e below _ (T184.setTop (mkF m 55 #[.val (.ref a), .val (.ref lv), .val (.ref st)] [(.ref b165), (.ref a)]))
  obtain ⟨T207, h207, X207, e207, W207, st207⟩ := putF X184 hx hZ hown (host := "") (Or.inl (hw _ (List.mem_of_getElem? (i := 167) rfl))) Via.refl rfl F5_185 Ex_189 (Or.inr ⟨(hw _ (List.mem_of_getElem? (i := 168) rfl)), rfl, hnm⟩) (hw _ (List.mem_of_getElem? (i := 3) rfl)) (ty := (.object "com/example/graph_of_conflicts/graphofconflicts/engine/Node")) (by decide) rfl rfl (g := (mkF m 55 #[.val (.ref a), .val (.ref lv), .val (.ref st)] [(.ref b165), (.ref a)])) rfl rfl (hb hby d8_55)
  have Fw207 := F5_185.same W207
  have F6_209 := (F6_186.other W207 (Or.inr (slot_ne (Or.inr (hw _ (List.mem_of_getElem? (i := 170) rfl))) (Or.inr (hw _ (List.mem_of_getElem? (i := 168) rfl))) (by decide) (t := (.object "com/example/graph_of_conflicts/graphofconflicts/api/IsolationLevel")) (t' := (.object "com/example/graph_of_conflicts/graphofconflicts/engine/Node")) (by decide) (by decide))))
  have F7_210 := (F7_187.other W207 (Or.inr (slot_ne (Or.inr (hw _ (List.mem_of_getElem? (i := 172) rfl))) (Or.inr (hw _ (List.mem_of_getElem? (i := 168) rfl))) (by decide) (t := (.object "java/lang/String")) (t' := (.object "com/example/graph_of_conflicts/graphofconflicts/engine/Node")) (by decide) (by decide))))
  have F8_211 := (F8_188.other W207 (Or.inr (slot_ne (Or.inr (hw _ (List.mem_of_getElem? (i := 192) rfl))) (Or.inr (hw _ (List.mem_of_getElem? (i := 168) rfl))) (by decide) (t := .int) (t' := (.object "com/example/graph_of_conflicts/graphofconflicts/engine/Node")) (by decide) (by decide))))
  have Ex_212 := (Ex_189.wr W207)
  have Es_213 := (Es_190.wr W207)
  have Vb_214 := (Vb_191.other W207 (Ne.symm neA))
  have Gvalue_215 := (Gvalue_192.other W207 (Or.inl (Ne.symm neS)))
  have Gcoder_216 := (Gcoder_193.other W207 (Or.inl (Ne.symm neS)))
  have Ghash_217 := (Ghash_194.other W207 (Or.inl (Ne.symm neS)))
  have GhashIsZero_218 := (GhashIsZero_195.other W207 (Or.inl (Ne.symm neS)))
  have Fw3_219 := (Fw3_196.other W207 (Or.inr (slot_ne (Or.inl (hw _ (List.mem_of_getElem? (i := 49) rfl))) (Or.inr (hw _ (List.mem_of_getElem? (i := 168) rfl))) (by decide) (t := (.object "com/example/graph_of_conflicts/graphofconflicts/api/TransactionState")) (t' := (.object "com/example/graph_of_conflicts/graphofconflicts/engine/Node")) (by decide) (by decide))))
  have Fw20_220 := (Fw20_197.other W207 (Or.inr (slot_ne (Or.inl (hw _ (List.mem_of_getElem? (i := 52) rfl))) (Or.inr (hw _ (List.mem_of_getElem? (i := 168) rfl))) (by decide) (t := .long) (t' := (.object "com/example/graph_of_conflicts/graphofconflicts/engine/Node")) (by decide) (by decide))))
  have Fw37_221 := (Fw37_198.other W207 (Or.inr (slot_ne (Or.inl (hw _ (List.mem_of_getElem? (i := 54) rfl))) (Or.inr (hw _ (List.mem_of_getElem? (i := 168) rfl))) (by decide) (t := .long) (t' := (.object "com/example/graph_of_conflicts/graphofconflicts/engine/Node")) (by decide) (by decide))))
  have A54_222 := (A54_199.wr W207)
  have Fw90_223 := (Fw90_200.other W207 (Or.inr (slot_ne (Or.inl (hw _ (List.mem_of_getElem? (i := 71) rfl))) (Or.inr (hw _ (List.mem_of_getElem? (i := 168) rfl))) (by decide) (t := (.object "com/example/graph_of_conflicts/graphofconflicts/engine/KeysByTable")) (t' := (.object "com/example/graph_of_conflicts/graphofconflicts/engine/Node")) (by decide) (by decide))))
  have A108_224 := (A108_201.wr W207)
  have Fw146_225 := (Fw146_202.other W207 (Or.inr (slot_ne (Or.inr (hw _ (List.mem_of_getElem? (i := 142) rfl))) (Or.inr (hw _ (List.mem_of_getElem? (i := 168) rfl))) (by decide) (t := (.object "java/util/Set")) (t' := (.object "com/example/graph_of_conflicts/graphofconflicts/engine/Node")) (by decide) (by decide))))
  have A165_226 := (A165_203.wr W207)
  have ZS207 : n0 ≤ h207.size := Nat.le_trans ZS184 (Keep.of_wr W207).1
  have KC207 : Keep h0 h207 [a, st] := KC184.wr W207 (Or.inl (List.mem_of_getElem? (i := 0) rfl))
  have N207 := Fr.snoc X207 N184 ga
  have Od207 := Od184.wr W207 ga
  refine OGo.step (fun uK kK => st207 uK kK) ?_
  show OGo p e below _ (T207.setTop (mkF m 58 #[.val (.ref a), .val (.ref lv), .val (.ref st)] []))
  refine OGo.step (fun uK kK => XS.aloadN X207.here hx rfl (hb hby d8_58) rfl rfl kK) ?_
  show OGo p e below _ (T207.setTop (mkF m 59 #[.val (.ref a), .val (.ref lv), .val (.ref st)] [(.ref a)]))
  refine OGo.step (fun uK kK => XS.aloadN X207.here hx rfl (hb hby d8_59) rfl rfl kK) ?_
  show OGo p e below _ (T207.setTop (mkF m 60 #[.val (.ref a), .val (.ref lv), .val (.ref st)] [(.ref lv), (.ref a)]))
  obtain ⟨T227, h227, X227, e227, W227, st227⟩ := putF X207 hx hZ hown (host := "") (Or.inl (hw _ (List.mem_of_getElem? (i := 169) rfl))) Via.refl e207 F6_209 Ex_212 (Or.inr ⟨(hw _ (List.mem_of_getElem? (i := 170) rfl)), rfl, hnm⟩) (hw _ (List.mem_of_getElem? (i := 3) rfl)) (ty := (.object "com/example/graph_of_conflicts/graphofconflicts/api/IsolationLevel")) (by decide) rfl rfl (g := (mkF m 60 #[.val (.ref a), .val (.ref lv), .val (.ref st)] [(.ref lv), (.ref a)])) rfl rfl (hb hby d8_60)
  have Fw227 := F6_209.same W227
  have F7_229 := (F7_210.other W227 (Or.inr (slot_ne (Or.inr (hw _ (List.mem_of_getElem? (i := 172) rfl))) (Or.inr (hw _ (List.mem_of_getElem? (i := 170) rfl))) (by decide) (t := (.object "java/lang/String")) (t' := (.object "com/example/graph_of_conflicts/graphofconflicts/api/IsolationLevel")) (by decide) (by decide))))
  have F8_230 := (F8_211.other W227 (Or.inr (slot_ne (Or.inr (hw _ (List.mem_of_getElem? (i := 192) rfl))) (Or.inr (hw _ (List.mem_of_getElem? (i := 170) rfl))) (by decide) (t := .int) (t' := (.object "com/example/graph_of_conflicts/graphofconflicts/api/IsolationLevel")) (by decide) (by decide))))
  have Ex_231 := (Ex_212.wr W227)
  have Es_232 := (Es_213.wr W227)
  have Vb_233 := (Vb_214.other W227 (Ne.symm neA))
  have Gvalue_234 := (Gvalue_215.other W227 (Or.inl (Ne.symm neS)))
  have Gcoder_235 := (Gcoder_216.other W227 (Or.inl (Ne.symm neS)))
  have Ghash_236 := (Ghash_217.other W227 (Or.inl (Ne.symm neS)))
  have GhashIsZero_237 := (GhashIsZero_218.other W227 (Or.inl (Ne.symm neS)))
  have Fw3_238 := (Fw3_219.other W227 (Or.inr (slot_ne (Or.inl (hw _ (List.mem_of_getElem? (i := 49) rfl))) (Or.inr (hw _ (List.mem_of_getElem? (i := 170) rfl))) (by decide) (t := (.object "com/example/graph_of_conflicts/graphofconflicts/api/TransactionState")) (t' := (.object "com/example/graph_of_conflicts/graphofconflicts/api/IsolationLevel")) (by decide) (by decide))))
  have Fw20_239 := (Fw20_220.other W227 (Or.inr (slot_ne (Or.inl (hw _ (List.mem_of_getElem? (i := 52) rfl))) (Or.inr (hw _ (List.mem_of_getElem? (i := 170) rfl))) (by decide) (t := .long) (t' := (.object "com/example/graph_of_conflicts/graphofconflicts/api/IsolationLevel")) (by decide) (by decide))))
  have Fw37_240 := (Fw37_221.other W227 (Or.inr (slot_ne (Or.inl (hw _ (List.mem_of_getElem? (i := 54) rfl))) (Or.inr (hw _ (List.mem_of_getElem? (i := 170) rfl))) (by decide) (t := .long) (t' := (.object "com/example/graph_of_conflicts/graphofconflicts/api/IsolationLevel")) (by decide) (by decide))))
  have A54_241 := (A54_222.wr W227)
  have Fw90_242 := (Fw90_223.other W227 (Or.inr (slot_ne (Or.inl (hw _ (List.mem_of_getElem? (i := 71) rfl))) (Or.inr (hw _ (List.mem_of_getElem? (i := 170) rfl))) (by decide) (t := (.object "com/example/graph_of_conflicts/graphofconflicts/engine/KeysByTable")) (t' := (.object "com/example/graph_of_conflicts/graphofconflicts/api/IsolationLevel")) (by decide) (by decide))))
  have A108_243 := (A108_224.wr W227)
  have Fw146_244 := (Fw146_225.other W227 (Or.inr (slot_ne (Or.inr (hw _ (List.mem_of_getElem? (i := 142) rfl))) (Or.inr (hw _ (List.mem_of_getElem? (i := 170) rfl))) (by decide) (t := (.object "java/util/Set")) (t' := (.object "com/example/graph_of_conflicts/graphofconflicts/api/IsolationLevel")) (by decide) (by decide))))
  have A165_245 := (A165_226.wr W227)
  have Fw207_246 := (Fw207.other W227 (Or.inr (slot_ne (Or.inr (hw _ (List.mem_of_getElem? (i := 168) rfl))) (Or.inr (hw _ (List.mem_of_getElem? (i := 170) rfl))) (by decide) (t := (.object "com/example/graph_of_conflicts/graphofconflicts/engine/Node")) (t' := (.object "com/example/graph_of_conflicts/graphofconflicts/api/IsolationLevel")) (by decide) (by decide))))
  have ZS227 : n0 ≤ h227.size := Nat.le_trans ZS207 (Keep.of_wr W227).1
  have KC227 : Keep h0 h227 [a, st] := KC207.wr W227 (Or.inl (List.mem_of_getElem? (i := 0) rfl))
  have N227 := Fr.snoc X227 N207 ga
  have Od227 := Od207.wr W227 ga
  refine OGo.step (fun uK kK => st227 uK kK) ?_
  show OGo p e below _ (T227.setTop (mkF m 63 #[.val (.ref a), .val (.ref lv), .val (.ref st)] []))
  refine OGo.step (fun uK kK => XS.aloadN X227.here hx rfl (hb hby d8_63) rfl rfl kK) ?_
  show OGo p e below _ (T227.setTop (mkF m 64 #[.val (.ref a), .val (.ref lv), .val (.ref st)] [(.ref a)]))
  refine OGo.step (fun uK kK => XS.aloadN X227.here hx rfl (hb hby d8_64) rfl rfl kK) ?_
  show OGo p e below _ (T227.setTop (mkF m 65 #[.val (.ref a), .val (.ref lv), .val (.ref st)] [(.ref st), (.ref a)]))
  obtain ⟨T247, h247, X247, e247, W247, st247⟩ := putF X227 hx hZ hown (host := "") (Or.inl (hw _ (List.mem_of_getElem? (i := 171) rfl))) Via.refl e227 F7_229 Ex_231 (Or.inr ⟨(hw _ (List.mem_of_getElem? (i := 172) rfl)), rfl, hnm⟩) (hw _ (List.mem_of_getElem? (i := 3) rfl)) (ty := (.object "java/lang/String")) (by decide) rfl rfl (g := (mkF m 65 #[.val (.ref a), .val (.ref lv), .val (.ref st)] [(.ref st), (.ref a)])) rfl rfl (hb hby d8_65)
  have Fw247 := F7_229.same W247
  have F8_249 := (F8_230.other W247 (Or.inr (slot_ne (Or.inr (hw _ (List.mem_of_getElem? (i := 192) rfl))) (Or.inr (hw _ (List.mem_of_getElem? (i := 172) rfl))) (by decide) (t := .int) (t' := (.object "java/lang/String")) (by decide) (by decide))))
  have Ex_250 := (Ex_231.wr W247)
  have Es_251 := (Es_232.wr W247)
  have Vb_252 := (Vb_233.other W247 (Ne.symm neA))
  have Gvalue_253 := (Gvalue_234.other W247 (Or.inl (Ne.symm neS)))
  have Gcoder_254 := (Gcoder_235.other W247 (Or.inl (Ne.symm neS)))
  have Ghash_255 := (Ghash_236.other W247 (Or.inl (Ne.symm neS)))
  have GhashIsZero_256 := (GhashIsZero_237.other W247 (Or.inl (Ne.symm neS)))
  have Fw3_257 := (Fw3_238.other W247 (Or.inr (slot_ne (Or.inl (hw _ (List.mem_of_getElem? (i := 49) rfl))) (Or.inr (hw _ (List.mem_of_getElem? (i := 172) rfl))) (by decide) (t := (.object "com/example/graph_of_conflicts/graphofconflicts/api/TransactionState")) (t' := (.object "java/lang/String")) (by decide) (by decide))))
  have Fw20_258 := (Fw20_239.other W247 (Or.inr (slot_ne (Or.inl (hw _ (List.mem_of_getElem? (i := 52) rfl))) (Or.inr (hw _ (List.mem_of_getElem? (i := 172) rfl))) (by decide) (t := .long) (t' := (.object "java/lang/String")) (by decide) (by decide))))
  have Fw37_259 := (Fw37_240.other W247 (Or.inr (slot_ne (Or.inl (hw _ (List.mem_of_getElem? (i := 54) rfl))) (Or.inr (hw _ (List.mem_of_getElem? (i := 172) rfl))) (by decide) (t := .long) (t' := (.object "java/lang/String")) (by decide) (by decide))))
  have A54_260 := (A54_241.wr W247)
  have Fw90_261 := (Fw90_242.other W247 (Or.inr (slot_ne (Or.inl (hw _ (List.mem_of_getElem? (i := 71) rfl))) (Or.inr (hw _ (List.mem_of_getElem? (i := 172) rfl))) (by decide) (t := (.object "com/example/graph_of_conflicts/graphofconflicts/engine/KeysByTable")) (t' := (.object "java/lang/String")) (by decide) (by decide))))
  have A108_262 := (A108_243.wr W247)
  have Fw146_263 := (Fw146_244.other W247 (Or.inr (slot_ne (Or.inr (hw _ (List.mem_of_getElem? (i := 142) rfl))) (Or.inr (hw _ (List.mem_of_getElem? (i := 172) rfl))) (by decide) (t := (.object "java/util/Set")) (t' := (.object "java/lang/String")) (by decide) (by decide))))
  have A165_264 := (A165_245.wr W247)
  have Fw207_265 := (Fw207_246.other W247 (Or.inr (slot_ne (Or.inr (hw _ (List.mem_of_getElem? (i := 168) rfl))) (Or.inr (hw _ (List.mem_of_getElem? (i := 172) rfl))) (by decide) (t := (.object "com/example/graph_of_conflicts/graphofconflicts/engine/Node")) (t' := (.object "java/lang/String")) (by decide) (by decide))))
  have Fw227_266 := (Fw227.other W247 (Or.inr (slot_ne (Or.inr (hw _ (List.mem_of_getElem? (i := 170) rfl))) (Or.inr (hw _ (List.mem_of_getElem? (i := 172) rfl))) (by decide) (t := (.object "com/example/graph_of_conflicts/graphofconflicts/api/IsolationLevel")) (t' := (.object "java/lang/String")) (by decide) (by decide))))
  have ZS247 : n0 ≤ h247.size := Nat.le_trans ZS227 (Keep.of_wr W247).1
  have KC247 : Keep h0 h247 [a, st] := KC227.wr W247 (Or.inl (List.mem_of_getElem? (i := 0) rfl))
  have N247 := Fr.snoc X247 N227 ga
  have Od247 := Od227.wr W247 ga
  refine OGo.step (fun uK kK => st247 uK kK) ?_
  show OGo p e below _ (T247.setTop (mkF m 68 #[.val (.ref a), .val (.ref lv), .val (.ref st)] []))
  refine OGo.step (fun uK kK => XS.aloadN X247.here hx rfl (hb hby d8_68) rfl rfl kK) ?_
  show OGo p e below _ (T247.setTop (mkF m 69 #[.val (.ref a), .val (.ref lv), .val (.ref st)] [(.ref a)]))
  refine OGo.step (fun uK kK => XS.aloadN X247.here hx rfl (hb hby d8_69) rfl rfl kK) ?_
  show OGo p e below _ (T247.setTop (mkF m 70 #[.val (.ref a), .val (.ref lv), .val (.ref st)] [(.ref st), (.ref a)]))
  obtain ⟨cq267, kq267, q267a, q267b, q267c⟩ := isOf hZ e247 Es_251
  obtain ⟨_, _, ⟨T267, Lq267, kq_267, nq_267⟩, -, X267, ⟨Lc267, hQ267, lq267, yq267, zq267⟩, st267⟩ := X247.virtualBack hx (y := (⟨"java/lang/String", "hashCode", "()I"⟩ : MethodName)) (z := (⟨"java/lang/String", "hashCode", "()I"⟩ : MethodName)) hown (mvT hZ (hw _ (List.mem_of_getElem? (i := 173) rfl))) (mvT hZ (hw _ (List.mem_of_getElem? (i := 174) rfl))) (notFace_of_selects (args := #[]) (mvT hZ (hw _ (List.mem_of_getElem? (i := 176) rfl)))) (mvT hZ (hw _ (List.mem_of_getElem? (i := 176) rfl))) (mvT hZ (hw _ (List.mem_of_getElem? (i := 175) rfl))) (by decide) (backOf (W := 1) (rmhc l Z a0 hw [] st aV kV b0 cs h247 n0 ZS247 Gvalue_253 Gcoder_254 Ghash_255 GhashIsZero_256 Vb_252 Es_251 gst neV SCS hcs Od247) hZ (hw _ (List.mem_of_getElem? (i := 177) rfl)) (hw _ (List.mem_of_getElem? (i := 14) rfl)) (by decide) (by decide)) q267a q267c (g := (mkF m 70 #[.val (.ref a), .val (.ref lv), .val (.ref st)] [(.ref st), (.ref a)])) rfl (by rw [hml]; rfl) (Steps.refl _) (argsL := []) (rest := [(.ref a)]) (lenOf pdtr_1 rfl) rfl (by show 2 * 0 + _ ≤ _; exact Nat.le_of_eq rfl) (hb hby d8_70) (fun _ _ => ⟨rfl, e247, (by decide : 7 + 0 ≤ _), (by decide : 54 + 0 ≤ _)⟩)
  dsimp only [Pt.U, Pt.locs, Pt.cells, Pt.slots] at X267 lq267 yq267 zq267 st267 hQ267
  subst lq267 yq267 zq267
  obtain ⟨hv, rfl, Nq267, K267⟩ := hQ267
  have F8_268 := (F8_249.keep K267 (ninS neS nin0))
  have Ex_269 := (Ex_250.keep K267)
  have Es_270 := (Es_251.keep K267)
  have Vb_271 := (Vb_252.keep K267 (ninS (Ne.symm neV) nin0))
  have Fw3_276 := (Fw3_257.keep K267 (ninS neS nin0))
  have Fw20_277 := (Fw20_258.keep K267 (ninS neS nin0))
  have Fw37_278 := (Fw37_259.keep K267 (ninS neS nin0))
  have A54_279 := (A54_260.keep K267)
  have Fw90_280 := (Fw90_261.keep K267 (ninS neS nin0))
  have A108_281 := (A108_262.keep K267)
  have Fw146_282 := (Fw146_263.keep K267 (ninS neS nin0))
  have A165_283 := (A165_264.keep K267)
  have Fw207_284 := (Fw207_265.keep K267 (ninS neS nin0))
  have Fw227_285 := (Fw227_266.keep K267 (ninS neS nin0))
  have Fw247_286 := (Fw247.keep K267 (ninS neS nin0))
  have ZS267 : n0 ≤ T267.heap.size := Nat.le_trans ZS247 K267.1
  have KC267 : Keep h0 T267.heap [a, st] := KC247.trans K267 (allS (Or.inl (List.mem_of_getElem? (i := 1) rfl)) all0)
  have Od267 := Od247.keep K267 (allS gst all0)
  have N267 := Fr.app N247 Nq267
  refine OGo.steps st267 ?_
  show OGo p e below _ (T267.setTop (mkF m 73 #[.val (.ref a), .val (.ref lv), .val (.ref st)] [(.int hv), (.ref a)]))
  obtain ⟨T287, h287, X287, e287, W287, st287⟩ := putF X267 hx hZ hown (host := "") (Or.inl (hw _ (List.mem_of_getElem? (i := 191) rfl))) Via.refl rfl F8_268 Ex_269 (Or.inr ⟨(hw _ (List.mem_of_getElem? (i := 192) rfl)), rfl, hnm⟩) (hw _ (List.mem_of_getElem? (i := 3) rfl)) (ty := .int) (by decide) rfl rfl (g := (mkF m 73 #[.val (.ref a), .val (.ref lv), .val (.ref st)] [(.int hv), (.ref a)])) rfl rfl (hb hby d8_73)
  have Fw287 := F8_268.same W287
  have Ex_289 := (Ex_269.wr W287)
  have Es_290 := (Es_270.wr W287)
  have Vb_291 := (Vb_271.other W287 (Ne.symm neA))
  have Fw3_292 := (Fw3_276.other W287 (Or.inr (slot_ne (Or.inl (hw _ (List.mem_of_getElem? (i := 49) rfl))) (Or.inr (hw _ (List.mem_of_getElem? (i := 192) rfl))) (by decide) (t := (.object "com/example/graph_of_conflicts/graphofconflicts/api/TransactionState")) (t' := .int) (by decide) (by decide))))
  have Fw20_293 := (Fw20_277.other W287 (Or.inr (slot_ne (Or.inl (hw _ (List.mem_of_getElem? (i := 52) rfl))) (Or.inr (hw _ (List.mem_of_getElem? (i := 192) rfl))) (by decide) (t := .long) (t' := .int) (by decide) (by decide))))
  have Fw37_294 := (Fw37_278.other W287 (Or.inr (slot_ne (Or.inl (hw _ (List.mem_of_getElem? (i := 54) rfl))) (Or.inr (hw _ (List.mem_of_getElem? (i := 192) rfl))) (by decide) (t := .long) (t' := .int) (by decide) (by decide))))
  have A54_295 := (A54_279.wr W287)
  have Fw90_296 := (Fw90_280.other W287 (Or.inr (slot_ne (Or.inl (hw _ (List.mem_of_getElem? (i := 71) rfl))) (Or.inr (hw _ (List.mem_of_getElem? (i := 192) rfl))) (by decide) (t := (.object "com/example/graph_of_conflicts/graphofconflicts/engine/KeysByTable")) (t' := .int) (by decide) (by decide))))
  have A108_297 := (A108_281.wr W287)
  have Fw146_298 := (Fw146_282.other W287 (Or.inr (slot_ne (Or.inr (hw _ (List.mem_of_getElem? (i := 142) rfl))) (Or.inr (hw _ (List.mem_of_getElem? (i := 192) rfl))) (by decide) (t := (.object "java/util/Set")) (t' := .int) (by decide) (by decide))))
  have A165_299 := (A165_283.wr W287)
  have Fw207_300 := (Fw207_284.other W287 (Or.inr (slot_ne (Or.inr (hw _ (List.mem_of_getElem? (i := 168) rfl))) (Or.inr (hw _ (List.mem_of_getElem? (i := 192) rfl))) (by decide) (t := (.object "com/example/graph_of_conflicts/graphofconflicts/engine/Node")) (t' := .int) (by decide) (by decide))))
  have Fw227_301 := (Fw227_285.other W287 (Or.inr (slot_ne (Or.inr (hw _ (List.mem_of_getElem? (i := 170) rfl))) (Or.inr (hw _ (List.mem_of_getElem? (i := 192) rfl))) (by decide) (t := (.object "com/example/graph_of_conflicts/graphofconflicts/api/IsolationLevel")) (t' := .int) (by decide) (by decide))))
  have Fw247_302 := (Fw247_286.other W287 (Or.inr (slot_ne (Or.inr (hw _ (List.mem_of_getElem? (i := 172) rfl))) (Or.inr (hw _ (List.mem_of_getElem? (i := 192) rfl))) (by decide) (t := (.object "java/lang/String")) (t' := .int) (by decide) (by decide))))
  have ZS287 : n0 ≤ h287.size := Nat.le_trans ZS267 (Keep.of_wr W287).1
  have KC287 : Keep h0 h287 [a, st] := KC267.wr W287 (Or.inl (List.mem_of_getElem? (i := 0) rfl))
  have N287 := Fr.snoc X287 N267 ga
  have Od287 := Od267.wr W287 ga
  refine OGo.step (fun uK kK => st287 uK kK) ?_
  show OGo p e below _ (T287.setTop (mkF m 76 #[.val (.ref a), .val (.ref lv), .val (.ref st)] []))
  exact OGo.retV X287 hx Bd.notSynchronized Bd.returns (hb hby d8_76) (by decide) (by decide) (by show Qtr Z a lv st aV kV b0 cs aE aA h0 n0 _ T287.heap _; rw [e287]; exact ⟨rfl, N287, KC287, Fw20_293, Fw37_294⟩)
theorem d27_0 : decode prog_62_method_10_code 0 = .ok (.aload_n 0, 1) := by decide +kernel
theorem d27_1 : decode prog_62_method_10_code 1 = .ok (.getfield 20, 3) := by decide +kernel
theorem d27_4 : decode prog_62_method_10_code 4 = .ok (.ldc2_w 18, 3) := by decide +kernel
theorem d27_7 : decode prog_62_method_10_code 7 = .ok (.lcmp, 1) := by decide +kernel
theorem d27_8 : decode prog_62_method_10_code 8 = .ok (.ifCond .ne 8, 3) := by decide +kernel
theorem d27_11 : decode prog_62_method_10_code 11 = .ok (.aload_n 0, 1) := by decide +kernel
theorem d27_12 : decode prog_62_method_10_code 12 = .ok (.lload_n 1, 1) := by decide +kernel
theorem d27_13 : decode prog_62_method_10_code 13 = .ok (.putfield 20, 3) := by decide +kernel
theorem d27_16 : decode prog_62_method_10_code 16 = .ok (.aload_n 0, 1) := by decide +kernel
theorem d27_17 : decode prog_62_method_10_code 17 = .ok (.lload_n 1, 1) := by decide +kernel
theorem d27_18 : decode prog_62_method_10_code 18 = .ok (.putfield 24, 3) := by decide +kernel
theorem d27_21 : decode prog_62_method_10_code 21 = .ok (.return_, 1) := by decide +kernel
theorem pnt1 : plainName "com/example/graph_of_conflicts/graphofconflicts/engine/Transaction" = true := by first | (simp [plainName, overriddenIn]; done) | decide +kernel
theorem eft1 (m : MethodId) (x0 : Addr) (x1 : Int64) : entryFrame m #[(.ref x0), (.long x1)] 3 = mkF m 0 #[.val (.ref x0), .val (.long x1), .second] [] := by first | (simp [entryFrame, mkF, argsToLocals, Value.category]; done) | rfl
def Qt1 (Z : State) (a : Addr) (q1 : Int64) (qx : Int64) (h0 : Heap) (n0 : Nat) (v : Option Value) (h : Heap) (L : List Loc) : Prop := v = none ∧ Fr n0 L ∧ Keep h0 h [a] ∧ Fld Z h a "com/example/graph_of_conflicts/graphofconflicts/engine/Transaction" "start" "J" (.long q1) ∧ Fld Z h a "com/example/graph_of_conflicts/graphofconflicts/engine/Transaction" "snapshot" "J" (.long q1)
set_option maxRecDepth 65536 in
set_option maxHeartbeats 40000000 in
theorem rmt1 (l : Launch) (Z : State) (a0 : Array Value) (hw : ∀ d ∈ tables_1, d.before a0 Z = true) (ws : List Jvm.Cond) (a : Addr) (q1 : Int64) (qx : Int64) (h0 : Heap) (n0 : Nat) (Z0 : n0 ≤ h0.size) (Fs : Fld Z h0 a "com/example/graph_of_conflicts/graphofconflicts/engine/Transaction" "start" "J" (.long (-1 : Int64))) (Fq : Fld Z h0 a "com/example/graph_of_conflicts/graphofconflicts/engine/Transaction" "snapshot" "J" (.long qx)) (Ex : Exa Z h0 a "com/example/graph_of_conflicts/graphofconflicts/engine/Transaction") (ga : n0 ≤ a) :
    MetFree l (⟨"com/example/graph_of_conflicts/graphofconflicts/engine/Transaction", "takeSnapshot", "(J)V"⟩ : MethodName) (head1 (Jvm.Cond.code (⟨"com/example/graph_of_conflicts/graphofconflicts/engine/Transaction", "takeSnapshot", "(J)V"⟩ : MethodName) prog_62_method_10_code 3 none :: ws) ({ frames := 0, cells := 0, slots := 0, locals := 0 } : Room)) (fun aQ UQ => aQ = #[(.ref a), (.long q1)] ∧ Z.Warmed39 UQ.vm ∧ UQ.heap = h0) (fun _ _ _ _ _ => True) (fun _ U o U' => ∃ v L, o = .returned v ∧ Qt1 Z a q1 qx h0 n0 v U'.heap L ∧ FrameEnd U o U' L ({ frames := 0, cells := 0, slots := 0, locals := 0 } : Room).cells ({ frames := 0, cells := 0, slots := 0, locals := 0 } : Room).slots) := by
  refine MetFree.of_bodySF (plainFor_of_name pnt1) hisR ?_
  intro p e s m args below meth c s₁ Bd hml0 hP hK
  obtain ⟨rfl, hZ, hh⟩ := hP
  have hx := Bd.exec
  have hby := Bd.bytes
  have hml : c.maxLocals = 3 := hml0
  have hown : s.vm.findClass "com/example/graph_of_conflicts/graphofconflicts/engine/Transaction" = some m.cls := findClass_of_methodNamed Bd.named
  have hnm := (name_of_methodNamed Bd.named Bd.method).1
  have X0 : Stand p l e ({ frames := 0, cells := 0, slots := 0, locals := 0 } : Room) s m #[(.ref a), (.long q1)] below meth c s₁ [] 0 0 := Stand.of_body Bd
  have e0 : s₁.heap = h0 := by rw [← hh, Bd.state]; rfl
  have N0 := Fr.nil n0
  show OGo p e below (OPost s (Qt1 Z a q1 qx h0 n0) ({ frames := 0, cells := 0, slots := 0, locals := 0 } : Room).cells ({ frames := 0, cells := 0, slots := 0, locals := 0 } : Room).slots) (s₁.setTop (entryFrame m #[(.ref a), (.long q1)] 3))
  refine OGo.step (fun uK kK => castTop (eft1 m a q1) kK) ?_
  show OGo p e below _ (s₁.setTop (mkF m 0 #[.val (.ref a), .val (.long q1), .second] []))
  refine OGo.step (fun uK kK => XS.aloadN X0.here hx rfl (hb hby d27_0) rfl rfl kK) ?_
  show OGo p e below _ (s₁.setTop (mkF m 1 #[.val (.ref a), .val (.long q1), .second] [(.ref a)]))
  obtain ⟨T1, X1, e1, st1⟩ := getF X0 hx hZ hown (host := "") (Or.inl (hw _ (List.mem_of_getElem? (i := 51) rfl))) Via.refl e0 Fs (g := (mkF m 1 #[.val (.ref a), .val (.long q1), .second] [(.ref a)])) rfl rfl (hb hby d27_1)
  refine OGo.step (fun uK kK => st1 uK kK) ?_
  show OGo p e below _ (T1.setTop (mkF m 4 #[.val (.ref a), .val (.long q1), .second] [(.long (-1 : Int64))]))
  refine OGo.step (fun uK kK => X1.ldc2J hx hown (mvT hZ (hw _ (List.mem_of_getElem? (i := 50) rfl))) rfl (hb hby d27_4) kK) ?_
  show OGo p e below _ (T1.setTop (mkF m 7 #[.val (.ref a), .val (.long q1), .second] [(.long (-1 : Int64)), (.long (-1 : Int64))]))
  refine OGo.step (fun uK kK => XS.lcmp X1.here hx rfl (hb hby d27_7) rfl kK) ?_
  show OGo p e below _ (T1.setTop (mkF m 8 #[.val (.ref a), .val (.long q1), .second] [(.int (lcmpW (-1 : Int64) (-1 : Int64)))]))
  have hc8 : (-1 : Int64) = (-1 : Int64) := by decide
  refine OGo.step (fun uK kK => XS.ifNo X1.here hx rfl (hb hby d27_8) rfl ((if0 _ _).trans (teq ((lw_eq _ _).mpr hc8)).2) kK) ?_
  show OGo p e below _ (T1.setTop (mkF m 11 #[.val (.ref a), .val (.long q1), .second] []))
  refine OGo.step (fun uK kK => XS.aloadN X1.here hx rfl (hb hby d27_11) rfl rfl kK) ?_
  show OGo p e below _ (T1.setTop (mkF m 12 #[.val (.ref a), .val (.long q1), .second] [(.ref a)]))
  refine OGo.step (fun uK kK => XS.lloadN X1.here hx rfl (hb hby d27_12) rfl kK) ?_
  show OGo p e below _ (T1.setTop (mkF m 13 #[.val (.ref a), .val (.long q1), .second] [(.long q1), (.ref a)]))
  obtain ⟨T2, h2, X2, e2, W2, st2⟩ := putF X1 hx hZ hown (host := "") (Or.inl (hw _ (List.mem_of_getElem? (i := 51) rfl))) Via.refl e1 Fs Ex (Or.inl (hw _ (List.mem_of_getElem? (i := 52) rfl))) (hw _ (List.mem_of_getElem? (i := 3) rfl)) (ty := .long) (by decide) rfl rfl (g := (mkF m 13 #[.val (.ref a), .val (.long q1), .second] [(.long q1), (.ref a)])) rfl rfl (hb hby d27_13)
  have Fw2 := Fs.same W2
  have Fq_4 := (Fq.other W2 (Or.inr (slot_ne (Or.inl (hw _ (List.mem_of_getElem? (i := 54) rfl))) (Or.inl (hw _ (List.mem_of_getElem? (i := 52) rfl))) (by decide) (t := .long) (t' := .long) (by decide) (by decide))))
  have Ex_5 := (Ex.wr W2)
  have ZS2 : n0 ≤ h2.size := Nat.le_trans Z0 (Keep.of_wr W2).1
  have KC2 : Keep h0 h2 [a] := (Keep.refl h0 [a]).wr W2 (Or.inl (List.mem_of_getElem? (i := 0) rfl))
  have N2 := Fr.snoc X2 N0 ga
  refine OGo.step (fun uK kK => st2 uK kK) ?_
  show OGo p e below _ (T2.setTop (mkF m 16 #[.val (.ref a), .val (.long q1), .second] []))
  refine OGo.step (fun uK kK => XS.aloadN X2.here hx rfl (hb hby d27_16) rfl rfl kK) ?_
  show OGo p e below _ (T2.setTop (mkF m 17 #[.val (.ref a), .val (.long q1), .second] [(.ref a)]))
  refine OGo.step (fun uK kK => XS.lloadN X2.here hx rfl (hb hby d27_17) rfl kK) ?_
  show OGo p e below _ (T2.setTop (mkF m 18 #[.val (.ref a), .val (.long q1), .second] [(.long q1), (.ref a)]))
  obtain ⟨T6, h6, X6, e6, W6, st6⟩ := putF X2 hx hZ hown (host := "") (Or.inl (hw _ (List.mem_of_getElem? (i := 53) rfl))) Via.refl e2 Fq_4 Ex_5 (Or.inl (hw _ (List.mem_of_getElem? (i := 54) rfl))) (hw _ (List.mem_of_getElem? (i := 3) rfl)) (ty := .long) (by decide) rfl rfl (g := (mkF m 18 #[.val (.ref a), .val (.long q1), .second] [(.long q1), (.ref a)])) rfl rfl (hb hby d27_18)
  have Fw6 := Fq_4.same W6
  have Ex_8 := (Ex_5.wr W6)
  have Fw2_9 := (Fw2.other W6 (Or.inr (slot_ne (Or.inl (hw _ (List.mem_of_getElem? (i := 52) rfl))) (Or.inl (hw _ (List.mem_of_getElem? (i := 54) rfl))) (by decide) (t := .long) (t' := .long) (by decide) (by decide))))
  have ZS6 : n0 ≤ h6.size := Nat.le_trans ZS2 (Keep.of_wr W6).1
  have KC6 : Keep h0 h6 [a] := KC2.wr W6 (Or.inl (List.mem_of_getElem? (i := 0) rfl))
  have N6 := Fr.snoc X6 N2 ga
  refine OGo.step (fun uK kK => st6 uK kK) ?_
  show OGo p e below _ (T6.setTop (mkF m 21 #[.val (.ref a), .val (.long q1), .second] []))
  exact OGo.retV X6 hx Bd.notSynchronized Bd.returns (hb hby d27_21) (by decide) (by decide) (by show Qt1 Z a q1 qx h0 n0 _ T6.heap _; rw [e6]; exact ⟨rfl, N6, KC6, Fw2_9, Fw6⟩)
theorem pnt2 : plainName "com/example/graph_of_conflicts/graphofconflicts/engine/Transaction" = true := by first | (simp [plainName, overriddenIn]; done) | decide +kernel
theorem eft2 (m : MethodId) (x0 : Addr) (x1 : Int64) : entryFrame m #[(.ref x0), (.long x1)] 3 = mkF m 0 #[.val (.ref x0), .val (.long x1), .second] [] := by first | (simp [entryFrame, mkF, argsToLocals, Value.category]; done) | rfl
def Qt2 (Z : State) (a : Addr) (q1 : Int64) (sx : Int64) (qx : Int64) (h0 : Heap) (n0 : Nat) (v : Option Value) (h : Heap) (L : List Loc) : Prop := v = none ∧ Fr n0 L ∧ Keep h0 h [a] ∧ Fld Z h a "com/example/graph_of_conflicts/graphofconflicts/engine/Transaction" "start" "J" (.long sx) ∧ Fld Z h a "com/example/graph_of_conflicts/graphofconflicts/engine/Transaction" "snapshot" "J" (.long q1)
set_option maxRecDepth 65536 in
set_option maxHeartbeats 40000000 in
theorem rmt2 (l : Launch) (Z : State) (a0 : Array Value) (hw : ∀ d ∈ tables_1, d.before a0 Z = true) (ws : List Jvm.Cond) (a : Addr) (q1 : Int64) (sx : Int64) (qx : Int64) (h0 : Heap) (n0 : Nat) (Z0 : n0 ≤ h0.size) (Fs : Fld Z h0 a "com/example/graph_of_conflicts/graphofconflicts/engine/Transaction" "start" "J" (.long sx)) (Fq : Fld Z h0 a "com/example/graph_of_conflicts/graphofconflicts/engine/Transaction" "snapshot" "J" (.long qx)) (Ex : Exa Z h0 a "com/example/graph_of_conflicts/graphofconflicts/engine/Transaction") (ga : n0 ≤ a) (hs : ¬ (sx = (-1 : Int64))) :
    MetFree l (⟨"com/example/graph_of_conflicts/graphofconflicts/engine/Transaction", "takeSnapshot", "(J)V"⟩ : MethodName) (head1 (Jvm.Cond.code (⟨"com/example/graph_of_conflicts/graphofconflicts/engine/Transaction", "takeSnapshot", "(J)V"⟩ : MethodName) prog_62_method_10_code 3 none :: ws) ({ frames := 0, cells := 0, slots := 0, locals := 0 } : Room)) (fun aQ UQ => aQ = #[(.ref a), (.long q1)] ∧ Z.Warmed39 UQ.vm ∧ UQ.heap = h0) (fun _ _ _ _ _ => True) (fun _ U o U' => ∃ v L, o = .returned v ∧ Qt2 Z a q1 sx qx h0 n0 v U'.heap L ∧ FrameEnd U o U' L ({ frames := 0, cells := 0, slots := 0, locals := 0 } : Room).cells ({ frames := 0, cells := 0, slots := 0, locals := 0 } : Room).slots) := by
  refine MetFree.of_bodySF (plainFor_of_name pnt2) hisR ?_
  intro p e s m args below meth c s₁ Bd hml0 hP hK
  obtain ⟨rfl, hZ, hh⟩ := hP
  have hx := Bd.exec
  have hby := Bd.bytes
  have hml : c.maxLocals = 3 := hml0
  have hown : s.vm.findClass "com/example/graph_of_conflicts/graphofconflicts/engine/Transaction" = some m.cls := findClass_of_methodNamed Bd.named
  have hnm := (name_of_methodNamed Bd.named Bd.method).1
  have X0 : Stand p l e ({ frames := 0, cells := 0, slots := 0, locals := 0 } : Room) s m #[(.ref a), (.long q1)] below meth c s₁ [] 0 0 := Stand.of_body Bd
  have e0 : s₁.heap = h0 := by rw [← hh, Bd.state]; rfl
  have N0 := Fr.nil n0
  show OGo p e below (OPost s (Qt2 Z a q1 sx qx h0 n0) ({ frames := 0, cells := 0, slots := 0, locals := 0 } : Room).cells ({ frames := 0, cells := 0, slots := 0, locals := 0 } : Room).slots) (s₁.setTop (entryFrame m #[(.ref a), (.long q1)] 3))
  refine OGo.step (fun uK kK => castTop (eft2 m a q1) kK) ?_
  show OGo p e below _ (s₁.setTop (mkF m 0 #[.val (.ref a), .val (.long q1), .second] []))
  refine OGo.step (fun uK kK => XS.aloadN X0.here hx rfl (hb hby d27_0) rfl rfl kK) ?_
  show OGo p e below _ (s₁.setTop (mkF m 1 #[.val (.ref a), .val (.long q1), .second] [(.ref a)]))
  obtain ⟨T1, X1, e1, st1⟩ := getF X0 hx hZ hown (host := "") (Or.inl (hw _ (List.mem_of_getElem? (i := 51) rfl))) Via.refl e0 Fs (g := (mkF m 1 #[.val (.ref a), .val (.long q1), .second] [(.ref a)])) rfl rfl (hb hby d27_1)
  refine OGo.step (fun uK kK => st1 uK kK) ?_
  show OGo p e below _ (T1.setTop (mkF m 4 #[.val (.ref a), .val (.long q1), .second] [(.long sx)]))
  refine OGo.step (fun uK kK => X1.ldc2J hx hown (mvT hZ (hw _ (List.mem_of_getElem? (i := 50) rfl))) rfl (hb hby d27_4) kK) ?_
  show OGo p e below _ (T1.setTop (mkF m 7 #[.val (.ref a), .val (.long q1), .second] [(.long (-1 : Int64)), (.long sx)]))
  refine OGo.step (fun uK kK => XS.lcmp X1.here hx rfl (hb hby d27_7) rfl kK) ?_
  show OGo p e below _ (T1.setTop (mkF m 8 #[.val (.ref a), .val (.long q1), .second] [(.int (lcmpW sx (-1 : Int64)))]))
  refine OGo.step (fun uK kK => XS.ifYes X1.here hx rfl (pc0 := 8) (pc' := 16) rfl (hb hby d27_8) rfl ((if0 _ _).trans (feq (fun q => hs ((lw_eq _ _).mp q))).2) (by decide) (by decide) kK) ?_
  show OGo p e below _ (T1.setTop (mkF m 16 #[.val (.ref a), .val (.long q1), .second] []))
  refine OGo.step (fun uK kK => XS.aloadN X1.here hx rfl (hb hby d27_16) rfl rfl kK) ?_
  show OGo p e below _ (T1.setTop (mkF m 17 #[.val (.ref a), .val (.long q1), .second] [(.ref a)]))
  refine OGo.step (fun uK kK => XS.lloadN X1.here hx rfl (hb hby d27_17) rfl kK) ?_
  show OGo p e below _ (T1.setTop (mkF m 18 #[.val (.ref a), .val (.long q1), .second] [(.long q1), (.ref a)]))
  obtain ⟨T2, h2, X2, e2, W2, st2⟩ := putF X1 hx hZ hown (host := "") (Or.inl (hw _ (List.mem_of_getElem? (i := 53) rfl))) Via.refl e1 Fq Ex (Or.inl (hw _ (List.mem_of_getElem? (i := 54) rfl))) (hw _ (List.mem_of_getElem? (i := 3) rfl)) (ty := .long) (by decide) rfl rfl (g := (mkF m 18 #[.val (.ref a), .val (.long q1), .second] [(.long q1), (.ref a)])) rfl rfl (hb hby d27_18)
  have Fw2 := Fq.same W2
  have Fs_3 := (Fs.other W2 (Or.inr (slot_ne (Or.inl (hw _ (List.mem_of_getElem? (i := 52) rfl))) (Or.inl (hw _ (List.mem_of_getElem? (i := 54) rfl))) (by decide) (t := .long) (t' := .long) (by decide) (by decide))))
  have Ex_5 := (Ex.wr W2)
  have ZS2 : n0 ≤ h2.size := Nat.le_trans Z0 (Keep.of_wr W2).1
  have KC2 : Keep h0 h2 [a] := (Keep.refl h0 [a]).wr W2 (Or.inl (List.mem_of_getElem? (i := 0) rfl))
  have N2 := Fr.snoc X2 N0 ga
  refine OGo.step (fun uK kK => st2 uK kK) ?_
  show OGo p e below _ (T2.setTop (mkF m 21 #[.val (.ref a), .val (.long q1), .second] []))
  exact OGo.retV X2 hx Bd.notSynchronized Bd.returns (hb hby d27_21) (by decide) (by decide) (by show Qt2 Z a q1 sx qx h0 n0 _ T2.heap _; rw [e2]; exact ⟨rfl, N2, KC2, Fs_3, Fw2⟩)
theorem d28_0 : decode prog_62_method_8_code 0 = .ok (.aload_n 0, 1) := by decide +kernel
theorem d28_1 : decode prog_62_method_8_code 1 = .ok (.getfield 24, 3) := by decide +kernel
theorem d28_4 : decode prog_62_method_8_code 4 = .ok (.lreturn, 1) := by decide +kernel
theorem pngs : plainName "com/example/graph_of_conflicts/graphofconflicts/engine/Transaction" = true := by first | (simp [plainName, overriddenIn]; done) | decide +kernel
theorem efgs (m : MethodId) (x0 : Addr) : entryFrame m #[(.ref x0)] 1 = mkF m 0 #[.val (.ref x0)] [] := by first | (simp [entryFrame, mkF, argsToLocals, Value.category]; done) | rfl
def Qgs (Z : State) (a : Addr) (qx : Int64) (h0 : Heap) (n0 : Nat) (v : Option Value) (h : Heap) (L : List Loc) : Prop := v = some (.long qx) ∧ Fr n0 L ∧ h = h0
set_option maxRecDepth 65536 in
set_option maxHeartbeats 40000000 in
theorem rmgs (l : Launch) (Z : State) (a0 : Array Value) (hw : ∀ d ∈ tables_1, d.before a0 Z = true) (ws : List Jvm.Cond) (a : Addr) (qx : Int64) (h0 : Heap) (n0 : Nat) (Z0 : n0 ≤ h0.size) (Fq : Fld Z h0 a "com/example/graph_of_conflicts/graphofconflicts/engine/Transaction" "snapshot" "J" (.long qx)) :
    MetFree l (⟨"com/example/graph_of_conflicts/graphofconflicts/engine/Transaction", "getSnapshot", "()J"⟩ : MethodName) (head1 (Jvm.Cond.code (⟨"com/example/graph_of_conflicts/graphofconflicts/engine/Transaction", "getSnapshot", "()J"⟩ : MethodName) prog_62_method_8_code 1 (some .long) :: ws) ({ frames := 0, cells := 0, slots := 0, locals := 0 } : Room)) (fun aQ UQ => aQ = #[(.ref a)] ∧ Z.Warmed39 UQ.vm ∧ UQ.heap = h0) (fun _ _ _ _ _ => True) (fun _ U o U' => ∃ v L, o = .returned v ∧ Qgs Z a qx h0 n0 v U'.heap L ∧ FrameEnd U o U' L ({ frames := 0, cells := 0, slots := 0, locals := 0 } : Room).cells ({ frames := 0, cells := 0, slots := 0, locals := 0 } : Room).slots) := by
  refine MetFree.of_bodySF (plainFor_of_name pngs) hisR ?_
  intro p e s m args below meth c s₁ Bd hml0 hP hK
  obtain ⟨rfl, hZ, hh⟩ := hP
  have hx := Bd.exec
  have hby := Bd.bytes
  have hml : c.maxLocals = 1 := hml0
  have hown : s.vm.findClass "com/example/graph_of_conflicts/graphofconflicts/engine/Transaction" = some m.cls := findClass_of_methodNamed Bd.named
  have hnm := (name_of_methodNamed Bd.named Bd.method).1
  have X0 : Stand p l e ({ frames := 0, cells := 0, slots := 0, locals := 0 } : Room) s m #[(.ref a)] below meth c s₁ [] 0 0 := Stand.of_body Bd
  have e0 : s₁.heap = h0 := by rw [← hh, Bd.state]; rfl
  have N0 := Fr.nil n0
  show OGo p e below (OPost s (Qgs Z a qx h0 n0) ({ frames := 0, cells := 0, slots := 0, locals := 0 } : Room).cells ({ frames := 0, cells := 0, slots := 0, locals := 0 } : Room).slots) (s₁.setTop (entryFrame m #[(.ref a)] 1))
  refine OGo.step (fun uK kK => castTop (efgs m a) kK) ?_
  show OGo p e below _ (s₁.setTop (mkF m 0 #[.val (.ref a)] []))
  refine OGo.step (fun uK kK => XS.aloadN X0.here hx rfl (hb hby d28_0) rfl rfl kK) ?_
  show OGo p e below _ (s₁.setTop (mkF m 1 #[.val (.ref a)] [(.ref a)]))
  obtain ⟨T1, X1, e1, st1⟩ := getF X0 hx hZ hown (host := "") (Or.inl (hw _ (List.mem_of_getElem? (i := 53) rfl))) Via.refl e0 Fq (g := (mkF m 1 #[.val (.ref a)] [(.ref a)])) rfl rfl (hb hby d28_1)
  refine OGo.step (fun uK kK => st1 uK kK) ?_
  show OGo p e below _ (T1.setTop (mkF m 4 #[.val (.ref a)] [(.long qx)]))
  exact OGo.retJ X1 hx Bd.notSynchronized Bd.returns (hb hby d28_4) (by decide) (by decide) (by show Qgs Z a qx h0 n0 _ T1.heap _; rw [e1]; exact ⟨rfl, N0, rfl⟩)
theorem d29_0 : decode prog_62_method_9_code 0 = .ok (.aload_n 0, 1) := by decide +kernel
theorem d29_1 : decode prog_62_method_9_code 1 = .ok (.getfield 20, 3) := by decide +kernel
theorem d29_4 : decode prog_62_method_9_code 4 = .ok (.lreturn, 1) := by decide +kernel
theorem pngf : plainName "com/example/graph_of_conflicts/graphofconflicts/engine/Transaction" = true := by first | (simp [plainName, overriddenIn]; done) | decide +kernel
theorem efgf (m : MethodId) (x0 : Addr) : entryFrame m #[(.ref x0)] 1 = mkF m 0 #[.val (.ref x0)] [] := by first | (simp [entryFrame, mkF, argsToLocals, Value.category]; done) | rfl
def Qgf (Z : State) (a : Addr) (qx : Int64) (h0 : Heap) (n0 : Nat) (v : Option Value) (h : Heap) (L : List Loc) : Prop := v = some (.long qx) ∧ Fr n0 L ∧ h = h0
set_option maxRecDepth 65536 in
set_option maxHeartbeats 40000000 in
theorem rmgf (l : Launch) (Z : State) (a0 : Array Value) (hw : ∀ d ∈ tables_1, d.before a0 Z = true) (ws : List Jvm.Cond) (a : Addr) (qx : Int64) (h0 : Heap) (n0 : Nat) (Z0 : n0 ≤ h0.size) (Fq : Fld Z h0 a "com/example/graph_of_conflicts/graphofconflicts/engine/Transaction" "start" "J" (.long qx)) :
    MetFree l (⟨"com/example/graph_of_conflicts/graphofconflicts/engine/Transaction", "getFirstSnapshot", "()J"⟩ : MethodName) (head1 (Jvm.Cond.code (⟨"com/example/graph_of_conflicts/graphofconflicts/engine/Transaction", "getFirstSnapshot", "()J"⟩ : MethodName) prog_62_method_9_code 1 (some .long) :: ws) ({ frames := 0, cells := 0, slots := 0, locals := 0 } : Room)) (fun aQ UQ => aQ = #[(.ref a)] ∧ Z.Warmed39 UQ.vm ∧ UQ.heap = h0) (fun _ _ _ _ _ => True) (fun _ U o U' => ∃ v L, o = .returned v ∧ Qgf Z a qx h0 n0 v U'.heap L ∧ FrameEnd U o U' L ({ frames := 0, cells := 0, slots := 0, locals := 0 } : Room).cells ({ frames := 0, cells := 0, slots := 0, locals := 0 } : Room).slots) := by
  refine MetFree.of_bodySF (plainFor_of_name pngf) hisR ?_
  intro p e s m args below meth c s₁ Bd hml0 hP hK
  obtain ⟨rfl, hZ, hh⟩ := hP
  have hx := Bd.exec
  have hby := Bd.bytes
  have hml : c.maxLocals = 1 := hml0
  have hown : s.vm.findClass "com/example/graph_of_conflicts/graphofconflicts/engine/Transaction" = some m.cls := findClass_of_methodNamed Bd.named
  have hnm := (name_of_methodNamed Bd.named Bd.method).1
  have X0 : Stand p l e ({ frames := 0, cells := 0, slots := 0, locals := 0 } : Room) s m #[(.ref a)] below meth c s₁ [] 0 0 := Stand.of_body Bd
  have e0 : s₁.heap = h0 := by rw [← hh, Bd.state]; rfl
  have N0 := Fr.nil n0
  show OGo p e below (OPost s (Qgf Z a qx h0 n0) ({ frames := 0, cells := 0, slots := 0, locals := 0 } : Room).cells ({ frames := 0, cells := 0, slots := 0, locals := 0 } : Room).slots) (s₁.setTop (entryFrame m #[(.ref a)] 1))
  refine OGo.step (fun uK kK => castTop (efgf m a) kK) ?_
  show OGo p e below _ (s₁.setTop (mkF m 0 #[.val (.ref a)] []))
  refine OGo.step (fun uK kK => XS.aloadN X0.here hx rfl (hb hby d29_0) rfl rfl kK) ?_
  show OGo p e below _ (s₁.setTop (mkF m 1 #[.val (.ref a)] [(.ref a)]))
  obtain ⟨T1, X1, e1, st1⟩ := getF X0 hx hZ hown (host := "") (Or.inl (hw _ (List.mem_of_getElem? (i := 51) rfl))) Via.refl e0 Fq (g := (mkF m 1 #[.val (.ref a)] [(.ref a)])) rfl rfl (hb hby d29_1)
  refine OGo.step (fun uK kK => st1 uK kK) ?_
  show OGo p e below _ (T1.setTop (mkF m 4 #[.val (.ref a)] [(.long qx)]))
  exact OGo.retJ X1 hx Bd.notSynchronized Bd.returns (hb hby d29_4) (by decide) (by decide) (by show Qgf Z a qx h0 n0 _ T1.heap _; rw [e1]; exact ⟨rfl, N0, rfl⟩)
theorem d30_0 : decode prog_62_method_7_code 0 = .ok (.aload_n 0, 1) := by decide +kernel
theorem d30_1 : decode prog_62_method_7_code 1 = .ok (.getfield 24, 3) := by decide +kernel
theorem d30_4 : decode prog_62_method_7_code 4 = .ok (.ldc2_w 18, 3) := by decide +kernel
theorem d30_7 : decode prog_62_method_7_code 7 = .ok (.lcmp, 1) := by decide +kernel
theorem d30_8 : decode prog_62_method_7_code 8 = .ok (.ifCond .eq 7, 3) := by decide +kernel
theorem d30_11 : decode prog_62_method_7_code 11 = .ok (.iconst 1, 1) := by decide +kernel
theorem d30_12 : decode prog_62_method_7_code 12 = .ok (.goto 4, 3) := by decide +kernel
theorem d30_15 : decode prog_62_method_7_code 15 = .ok (.iconst 0, 1) := by decide +kernel
theorem d30_16 : decode prog_62_method_7_code 16 = .ok (.ireturn, 1) := by decide +kernel
theorem pnha : plainName "com/example/graph_of_conflicts/graphofconflicts/engine/Transaction" = true := by first | (simp [plainName, overriddenIn]; done) | decide +kernel
theorem efha (m : MethodId) (x0 : Addr) : entryFrame m #[(.ref x0)] 1 = mkF m 0 #[.val (.ref x0)] [] := by first | (simp [entryFrame, mkF, argsToLocals, Value.category]; done) | rfl
def Qha (Z : State) (a : Addr) (qx : Int64) (h0 : Heap) (n0 : Nat) (v : Option Value) (h : Heap) (L : List Loc) : Prop := v = some (.int (nar .boolean (if qx = (-1 : Int64) then (0 : Int32) else (1 : Int32)))) ∧ Fr n0 L ∧ h = h0
set_option maxRecDepth 65536 in
set_option maxHeartbeats 40000000 in
theorem rmha (l : Launch) (Z : State) (a0 : Array Value) (hw : ∀ d ∈ tables_1, d.before a0 Z = true) (ws : List Jvm.Cond) (a : Addr) (qx : Int64) (h0 : Heap) (n0 : Nat) (Z0 : n0 ≤ h0.size) (Fq : Fld Z h0 a "com/example/graph_of_conflicts/graphofconflicts/engine/Transaction" "snapshot" "J" (.long qx)) :
    MetFree l (⟨"com/example/graph_of_conflicts/graphofconflicts/engine/Transaction", "hasSnapshot", "()Z"⟩ : MethodName) (head1 (Jvm.Cond.code (⟨"com/example/graph_of_conflicts/graphofconflicts/engine/Transaction", "hasSnapshot", "()Z"⟩ : MethodName) prog_62_method_7_code 1 (some .boolean) :: ws) ({ frames := 0, cells := 0, slots := 0, locals := 0 } : Room)) (fun aQ UQ => aQ = #[(.ref a)] ∧ Z.Warmed39 UQ.vm ∧ UQ.heap = h0) (fun _ _ _ _ _ => True) (fun _ U o U' => ∃ v L, o = .returned v ∧ Qha Z a qx h0 n0 v U'.heap L ∧ FrameEnd U o U' L ({ frames := 0, cells := 0, slots := 0, locals := 0 } : Room).cells ({ frames := 0, cells := 0, slots := 0, locals := 0 } : Room).slots) := by
  refine MetFree.of_bodySF (plainFor_of_name pnha) hisR ?_
  intro p e s m args below meth c s₁ Bd hml0 hP hK
  obtain ⟨rfl, hZ, hh⟩ := hP
  have hx := Bd.exec
  have hby := Bd.bytes
  have hml : c.maxLocals = 1 := hml0
  have hown : s.vm.findClass "com/example/graph_of_conflicts/graphofconflicts/engine/Transaction" = some m.cls := findClass_of_methodNamed Bd.named
  have hnm := (name_of_methodNamed Bd.named Bd.method).1
  have X0 : Stand p l e ({ frames := 0, cells := 0, slots := 0, locals := 0 } : Room) s m #[(.ref a)] below meth c s₁ [] 0 0 := Stand.of_body Bd
  have e0 : s₁.heap = h0 := by rw [← hh, Bd.state]; rfl
  have N0 := Fr.nil n0
  show OGo p e below (OPost s (Qha Z a qx h0 n0) ({ frames := 0, cells := 0, slots := 0, locals := 0 } : Room).cells ({ frames := 0, cells := 0, slots := 0, locals := 0 } : Room).slots) (s₁.setTop (entryFrame m #[(.ref a)] 1))
  refine OGo.step (fun uK kK => castTop (efha m a) kK) ?_
  show OGo p e below _ (s₁.setTop (mkF m 0 #[.val (.ref a)] []))
  refine OGo.step (fun uK kK => XS.aloadN X0.here hx rfl (hb hby d30_0) rfl rfl kK) ?_
  show OGo p e below _ (s₁.setTop (mkF m 1 #[.val (.ref a)] [(.ref a)]))
  obtain ⟨T1, X1, e1, st1⟩ := getF X0 hx hZ hown (host := "") (Or.inl (hw _ (List.mem_of_getElem? (i := 53) rfl))) Via.refl e0 Fq (g := (mkF m 1 #[.val (.ref a)] [(.ref a)])) rfl rfl (hb hby d30_1)
  refine OGo.step (fun uK kK => st1 uK kK) ?_
  show OGo p e below _ (T1.setTop (mkF m 4 #[.val (.ref a)] [(.long qx)]))
  refine OGo.step (fun uK kK => X1.ldc2J hx hown (mvT hZ (hw _ (List.mem_of_getElem? (i := 50) rfl))) rfl (hb hby d30_4) kK) ?_
  show OGo p e below _ (T1.setTop (mkF m 7 #[.val (.ref a)] [(.long (-1 : Int64)), (.long qx)]))
  refine OGo.step (fun uK kK => XS.lcmp X1.here hx rfl (hb hby d30_7) rfl kK) ?_
  show OGo p e below _ (T1.setTop (mkF m 8 #[.val (.ref a)] [(.int (lcmpW qx (-1 : Int64)))]))
  refine OGo.step (t' := T1.setTop (mkF m 16 #[.val (.ref a)] [(.int (if qx = (-1 : Int64) then (0 : Int32) else (1 : Int32)))])) (fun uK kK => ?_) ?_
  · show Steps p.tables e below (T1.setTop (mkF m 8 #[.val (.ref a)] [(.int (lcmpW qx (-1 : Int64)))])) _
    by_cases hm8_2 : qx = (-1 : Int64)
    · try rw [if_pos hm8_2] at kK
      refine XS.ifYes X1.here hx rfl (pc0 := 8) (pc' := 15) rfl (hb hby d30_8) rfl ((if0 _ _).trans (teq ((lw_eq _ _).mpr hm8_2)).1) (by decide) (by decide) ?_
      refine XS.iconst X1.here hx rfl (hb hby d30_15) ?_
      show Steps p.tables e below (T1.setTop (mkF m 16 #[.val (.ref a)] [(.int (0 : Int32))])) _
      exact kK
    · try rw [if_neg hm8_2] at kK
      refine XS.ifNo X1.here hx rfl (hb hby d30_8) rfl ((if0 _ _).trans (feq (fun q => hm8_2 ((lw_eq _ _).mp q))).1) ?_
      refine XS.iconst X1.here hx rfl (hb hby d30_11) ?_
      show Steps p.tables e below (T1.setTop (mkF m 12 #[.val (.ref a)] [(.int (1 : Int32))])) _
      refine XS.goto X1.here hx rfl (pc0 := 12) (pc' := 16) rfl (hb hby d30_12) (by decide) (by decide) ?_
      show Steps p.tables e below (T1.setTop (mkF m 16 #[.val (.ref a)] [(.int (1 : Int32))])) _
      exact kK
  show OGo p e below _ (T1.setTop (mkF m 16 #[.val (.ref a)] [(.int (if qx = (-1 : Int64) then (0 : Int32) else (1 : Int32)))]))
  exact OGo.retN X1 hx Bd.notSynchronized (t := .boolean) Bd.returns (by simp) (hb hby d30_16) (by decide) (by decide) (by show Qha Z a qx h0 n0 _ T1.heap _; rw [e1]; exact ⟨rfl, N0, rfl⟩)
theorem pn0 : plainName "com/example/graph_of_conflicts/graphofconflicts/engine/TransactionTakeSnapshotPinLaw" = true := by first | (simp [plainName, overriddenIn]; done) | decide +kernel
theorem pd0_0 : parseMethodDescriptor "(I)Lcom/example/graph_of_conflicts/graphofconflicts/api/IsolationLevel;" = some ⟨[.int], some (.object "com/example/graph_of_conflicts/graphofconflicts/api/IsolationLevel")⟩ := by decide +kernel
theorem pd0_1 : parseMethodDescriptor "([C)V" = some ⟨[(.array .char)], none⟩ := by decide +kernel
theorem pd0_2 : parseMethodDescriptor "(Lcom/example/graph_of_conflicts/graphofconflicts/api/IsolationLevel;Ljava/lang/String;)V" = some ⟨[(.object "com/example/graph_of_conflicts/graphofconflicts/api/IsolationLevel"), (.object "java/lang/String")], none⟩ := by decide +kernel
theorem pd0_3 : parseMethodDescriptor "()J" = some ⟨[], some .long⟩ := by decide +kernel
theorem pd0_4 : parseMethodDescriptor "()Z" = some ⟨[], some .boolean⟩ := by decide +kernel
theorem pd0_5 : parseMethodDescriptor "(J)V" = some ⟨[.long], none⟩ := by decide +kernel
theorem ef0 (m : MethodId) (x0 : Int64) (x1 : Int64) (x2 : Int64) (x3 : Int32) : entryFrame m #[(.long x0), (.long x1), (.long x2), (.int x3)] maxLocals = mkF m 0 #[.val (.long x0), .second, .val (.long x1), .second, .val (.long x2), .second, .val (.int x3), .unset, .unset, .unset, .unset, .unset, .unset, .unset, .unset, .unset, .unset, .unset, .unset, .unset] [] := by first | (simp [entryFrame, mkF, argsToLocals, Value.category, maxLocals]; done) | rfl
def Q0 (Z : State) (x0 : Int64) (y0 : Int64) (z0 : Int64) (k0 : Int32) (a_READ_COMMITTED : Addr) (a_REPEATABLE_READ : Addr) (a_SERIALIZABLE : Addr) (cs : Int32) (aE : Addr) (aA : Addr) (h0 : Heap) (n0 : Nat) (v : Option Value) (h : Heap) (L : List Loc) : Prop := v = some (.int 1) ∧ Fr n0 L
set_option maxRecDepth 65536 in
set_option maxHeartbeats 40000000 in
theorem rm0 (l : Launch) (Z : State) (a0 : Array Value) (hw : ∀ d ∈ tables_1, d.before a0 Z = true) (ws : List Jvm.Cond) (x0 : Int64) (y0 : Int64) (z0 : Int64) (k0 : Int32) (a_READ_COMMITTED : Addr) (a_REPEATABLE_READ : Addr) (a_SERIALIZABLE : Addr) (cs : Int32) (aE : Addr) (aA : Addr) (h0 : Heap) (n0 : Nat) (Z0 : n0 ≤ h0.size) (S_READ_COMMITTED : Sta Z Z.heap "com/example/graph_of_conflicts/graphofconflicts/api/IsolationLevel" "READ_COMMITTED" "Lcom/example/graph_of_conflicts/graphofconflicts/api/IsolationLevel;" (.ref a_READ_COMMITTED)) (S_REPEATABLE_READ : Sta Z Z.heap "com/example/graph_of_conflicts/graphofconflicts/api/IsolationLevel" "REPEATABLE_READ" "Lcom/example/graph_of_conflicts/graphofconflicts/api/IsolationLevel;" (.ref a_REPEATABLE_READ)) (S_SERIALIZABLE : Sta Z Z.heap "com/example/graph_of_conflicts/graphofconflicts/api/IsolationLevel" "SERIALIZABLE" "Lcom/example/graph_of_conflicts/graphofconflicts/api/IsolationLevel;" (.ref a_SERIALIZABLE)) (SCS : Sta Z Z.heap "java/lang/String" "COMPACT_STRINGS" "Z" (.int cs)) (hcs : ¬ (cs = (0 : Int32))) (SES : Sta Z Z.heap "java/util/ImmutableCollections" "EMPTY_SET" "Ljava/util/ImmutableCollections$SetN;" (.ref aE)) (SAC : Sta Z Z.heap "com/example/graph_of_conflicts/graphofconflicts/api/TransactionState" "ACTIVE" "Lcom/example/graph_of_conflicts/graphofconflicts/api/TransactionState;" (.ref aA)) (Od : Old Z n0 h0) :
    MetFree l x (head1 (Jvm.Cond.code x code maxLocals ret :: ws) room_1) (fun aQ UQ => aQ = #[(.long x0), (.long y0), (.long z0), (.int k0)] ∧ Z.Warmed39 UQ.vm ∧ UQ.heap = h0) (fun _ _ _ _ _ => True) (fun _ U o U' => ∃ v L, o = .returned v ∧ Q0 Z x0 y0 z0 k0 a_READ_COMMITTED a_REPEATABLE_READ a_SERIALIZABLE cs aE aA h0 n0 v U'.heap L ∧ FrameEnd U o U' L room_1.cells room_1.slots) := by
  refine MetFree.of_bodySF (plainFor_of_name pn0) hisR ?_
  intro p e s m args below meth c s₁ Bd hml0 hP hK
  obtain ⟨rfl, hZ, hh⟩ := hP
  have hx := Bd.exec
  have hby := Bd.bytes
  have hml : c.maxLocals = 20 := hml0
  have hown : s.vm.findClass "com/example/graph_of_conflicts/graphofconflicts/engine/TransactionTakeSnapshotPinLaw" = some m.cls := findClass_of_methodNamed Bd.named
  have hnm := (name_of_methodNamed Bd.named Bd.method).1
  have X0 : Stand p l e room_1 s m #[(.long x0), (.long y0), (.long z0), (.int k0)] below meth c s₁ [] 0 0 := Stand.of_body Bd
  have e0 : s₁.heap = h0 := by rw [← hh, Bd.state]; rfl
  have N0 := Fr.nil n0
  show OGo p e below (OPost s (Q0 Z x0 y0 z0 k0 a_READ_COMMITTED a_REPEATABLE_READ a_SERIALIZABLE cs aE aA h0 n0) room_1.cells room_1.slots) (s₁.setTop (entryFrame m #[(.long x0), (.long y0), (.long z0), (.int k0)] maxLocals))
  refine OGo.step (fun uK kK => castTop (ef0 m x0 y0 z0 k0) kK) ?_
  show OGo p e below _ (s₁.setTop (mkF m 0 #[.val (.long x0), .second, .val (.long y0), .second, .val (.long z0), .second, .val (.int k0), .unset, .unset, .unset, .unset, .unset, .unset, .unset, .unset, .unset, .unset, .unset, .unset, .unset] []))
  refine OGo.step (fun uK kK => XS.iload X0.here hx rfl (hb hby at_0) rfl kK) ?_
  show OGo p e below _ (s₁.setTop (mkF m 2 #[.val (.long x0), .second, .val (.long y0), .second, .val (.long z0), .second, .val (.int k0), .unset, .unset, .unset, .unset, .unset, .unset, .unset, .unset, .unset, .unset, .unset, .unset, .unset] [(.int k0)]))
  refine OGo.step (fun uK kK => XS.iconst X0.here hx rfl (hb hby at_2) kK) ?_
  show OGo p e below _ (s₁.setTop (mkF m 3 #[.val (.long x0), .second, .val (.long y0), .second, .val (.long z0), .second, .val (.int k0), .unset, .unset, .unset, .unset, .unset, .unset, .unset, .unset, .unset, .unset, .unset, .unset, .unset] [(.int (3 : Int32)), (.int k0)]))
  refine OGo.step (fun uK kK => XS.iand X0.here hx rfl (hb hby at_3) rfl kK) ?_
  show OGo p e below _ (s₁.setTop (mkF m 4 #[.val (.long x0), .second, .val (.long y0), .second, .val (.long z0), .second, .val (.int k0), .unset, .unset, .unset, .unset, .unset, .unset, .unset, .unset, .unset, .unset, .unset, .unset, .unset] [(.int (k0 &&& (3 : Int32)))]))
  obtain ⟨nn, ev_nn⟩ : ∃ z : Int32, z = (k0 &&& (3 : Int32)) := ⟨_, rfl⟩
  rw [← ev_nn]
  show OGo p e below _ (s₁.setTop (mkF m 4 #[.val (.long x0), .second, .val (.long y0), .second, .val (.long z0), .second, .val (.int k0), .unset, .unset, .unset, .unset, .unset, .unset, .unset, .unset, .unset, .unset, .unset, .unset, .unset] [(.int nn)]))
  refine OGo.step (fun uK kK => XS.istore X0.here hx rfl (hb hby at_4) rfl (l' := #[.val (.long x0), .second, .val (.long y0), .second, .val (.long z0), .second, .val (.int k0), .val (.int nn), .unset, .unset, .unset, .unset, .unset, .unset, .unset, .unset, .unset, .unset, .unset, .unset]) rfl kK) ?_
  show OGo p e below _ (s₁.setTop (mkF m 6 #[.val (.long x0), .second, .val (.long y0), .second, .val (.long z0), .second, .val (.int k0), .val (.int nn), .unset, .unset, .unset, .unset, .unset, .unset, .unset, .unset, .unset, .unset, .unset, .unset] []))
  refine OGo.step (fun uK kK => XS.lloadN X0.here hx rfl (hb hby at_6) rfl kK) ?_
  show OGo p e below _ (s₁.setTop (mkF m 7 #[.val (.long x0), .second, .val (.long y0), .second, .val (.long z0), .second, .val (.int k0), .val (.int nn), .unset, .unset, .unset, .unset, .unset, .unset, .unset, .unset, .unset, .unset, .unset, .unset] [(.long x0)]))
  refine OGo.step (fun uK kK => X0.ldc2J hx hown (mvT hZ (hw _ (List.mem_of_getElem? (i := 0) rfl))) rfl (hb hby at_7) kK) ?_
  show OGo p e below _ (s₁.setTop (mkF m 10 #[.val (.long x0), .second, .val (.long y0), .second, .val (.long z0), .second, .val (.int k0), .val (.int nn), .unset, .unset, .unset, .unset, .unset, .unset, .unset, .unset, .unset, .unset, .unset, .unset] [(.long (9223372036854775807 : Int64)), (.long x0)]))
  refine OGo.step (fun uK kK => XS.land X0.here hx rfl (hb hby at_10) rfl kK) ?_
  show OGo p e below _ (s₁.setTop (mkF m 11 #[.val (.long x0), .second, .val (.long y0), .second, .val (.long z0), .second, .val (.int k0), .val (.int nn), .unset, .unset, .unset, .unset, .unset, .unset, .unset, .unset, .unset, .unset, .unset, .unset] [(.long (x0 &&& (9223372036854775807 : Int64)))]))
  obtain ⟨qa, ev_qa⟩ : ∃ z : Int64, z = (x0 &&& (9223372036854775807 : Int64)) := ⟨_, rfl⟩
  rw [← ev_qa]
  show OGo p e below _ (s₁.setTop (mkF m 11 #[.val (.long x0), .second, .val (.long y0), .second, .val (.long z0), .second, .val (.int k0), .val (.int nn), .unset, .unset, .unset, .unset, .unset, .unset, .unset, .unset, .unset, .unset, .unset, .unset] [(.long qa)]))
  refine OGo.step (fun uK kK => XS.lstore X0.here hx rfl (hb hby at_11) rfl (l' := #[.val (.long x0), .second, .val (.long y0), .second, .val (.long z0), .second, .val (.int k0), .val (.int nn), .val (.long qa), .second, .unset, .unset, .unset, .unset, .unset, .unset, .unset, .unset, .unset, .unset]) rfl kK) ?_
  show OGo p e below _ (s₁.setTop (mkF m 13 #[.val (.long x0), .second, .val (.long y0), .second, .val (.long z0), .second, .val (.int k0), .val (.int nn), .val (.long qa), .second, .unset, .unset, .unset, .unset, .unset, .unset, .unset, .unset, .unset, .unset] []))
  have hp_qa := own_pos x0 qa ev_qa
  refine OGo.step (fun uK kK => XS.lloadN X0.here hx rfl (hb hby at_13) rfl kK) ?_
  show OGo p e below _ (s₁.setTop (mkF m 14 #[.val (.long x0), .second, .val (.long y0), .second, .val (.long z0), .second, .val (.int k0), .val (.int nn), .val (.long qa), .second, .unset, .unset, .unset, .unset, .unset, .unset, .unset, .unset, .unset, .unset] [(.long y0)]))
  refine OGo.step (fun uK kK => X0.ldc2J hx hown (mvT hZ (hw _ (List.mem_of_getElem? (i := 0) rfl))) rfl (hb hby at_14) kK) ?_
  show OGo p e below _ (s₁.setTop (mkF m 17 #[.val (.long x0), .second, .val (.long y0), .second, .val (.long z0), .second, .val (.int k0), .val (.int nn), .val (.long qa), .second, .unset, .unset, .unset, .unset, .unset, .unset, .unset, .unset, .unset, .unset] [(.long (9223372036854775807 : Int64)), (.long y0)]))
  refine OGo.step (fun uK kK => XS.land X0.here hx rfl (hb hby at_17) rfl kK) ?_
  show OGo p e below _ (s₁.setTop (mkF m 18 #[.val (.long x0), .second, .val (.long y0), .second, .val (.long z0), .second, .val (.int k0), .val (.int nn), .val (.long qa), .second, .unset, .unset, .unset, .unset, .unset, .unset, .unset, .unset, .unset, .unset] [(.long (y0 &&& (9223372036854775807 : Int64)))]))
  obtain ⟨qb, ev_qb⟩ : ∃ z : Int64, z = (y0 &&& (9223372036854775807 : Int64)) := ⟨_, rfl⟩
  rw [← ev_qb]
  show OGo p e below _ (s₁.setTop (mkF m 18 #[.val (.long x0), .second, .val (.long y0), .second, .val (.long z0), .second, .val (.int k0), .val (.int nn), .val (.long qa), .second, .unset, .unset, .unset, .unset, .unset, .unset, .unset, .unset, .unset, .unset] [(.long qb)]))
  refine OGo.step (fun uK kK => XS.lstore X0.here hx rfl (hb hby at_18) rfl (l' := #[.val (.long x0), .second, .val (.long y0), .second, .val (.long z0), .second, .val (.int k0), .val (.int nn), .val (.long qa), .second, .val (.long qb), .second, .unset, .unset, .unset, .unset, .unset, .unset, .unset, .unset]) rfl kK) ?_
  show OGo p e below _ (s₁.setTop (mkF m 20 #[.val (.long x0), .second, .val (.long y0), .second, .val (.long z0), .second, .val (.int k0), .val (.int nn), .val (.long qa), .second, .val (.long qb), .second, .unset, .unset, .unset, .unset, .unset, .unset, .unset, .unset] []))
  have hp_qb := own_pos y0 qb ev_qb
  refine OGo.step (fun uK kK => XS.lload X0.here hx rfl (hb hby at_20) rfl kK) ?_
  show OGo p e below _ (s₁.setTop (mkF m 22 #[.val (.long x0), .second, .val (.long y0), .second, .val (.long z0), .second, .val (.int k0), .val (.int nn), .val (.long qa), .second, .val (.long qb), .second, .unset, .unset, .unset, .unset, .unset, .unset, .unset, .unset] [(.long z0)]))
  refine OGo.step (fun uK kK => X0.ldc2J hx hown (mvT hZ (hw _ (List.mem_of_getElem? (i := 0) rfl))) rfl (hb hby at_22) kK) ?_
  show OGo p e below _ (s₁.setTop (mkF m 25 #[.val (.long x0), .second, .val (.long y0), .second, .val (.long z0), .second, .val (.int k0), .val (.int nn), .val (.long qa), .second, .val (.long qb), .second, .unset, .unset, .unset, .unset, .unset, .unset, .unset, .unset] [(.long (9223372036854775807 : Int64)), (.long z0)]))
  refine OGo.step (fun uK kK => XS.land X0.here hx rfl (hb hby at_25) rfl kK) ?_
  show OGo p e below _ (s₁.setTop (mkF m 26 #[.val (.long x0), .second, .val (.long y0), .second, .val (.long z0), .second, .val (.int k0), .val (.int nn), .val (.long qa), .second, .val (.long qb), .second, .unset, .unset, .unset, .unset, .unset, .unset, .unset, .unset] [(.long (z0 &&& (9223372036854775807 : Int64)))]))
  obtain ⟨qc, ev_qc⟩ : ∃ z : Int64, z = (z0 &&& (9223372036854775807 : Int64)) := ⟨_, rfl⟩
  rw [← ev_qc]
  show OGo p e below _ (s₁.setTop (mkF m 26 #[.val (.long x0), .second, .val (.long y0), .second, .val (.long z0), .second, .val (.int k0), .val (.int nn), .val (.long qa), .second, .val (.long qb), .second, .unset, .unset, .unset, .unset, .unset, .unset, .unset, .unset] [(.long qc)]))
  refine OGo.step (fun uK kK => XS.lstore X0.here hx rfl (hb hby at_26) rfl (l' := #[.val (.long x0), .second, .val (.long y0), .second, .val (.long z0), .second, .val (.int k0), .val (.int nn), .val (.long qa), .second, .val (.long qb), .second, .val (.long qc), .second, .unset, .unset, .unset, .unset, .unset, .unset]) rfl kK) ?_
  show OGo p e below _ (s₁.setTop (mkF m 28 #[.val (.long x0), .second, .val (.long y0), .second, .val (.long z0), .second, .val (.int k0), .val (.int nn), .val (.long qa), .second, .val (.long qb), .second, .val (.long qc), .second, .unset, .unset, .unset, .unset, .unset, .unset] []))
  have hp_qc := own_pos z0 qc ev_qc
  refine OGo.step (fun uK kK => XS.iconst X0.here hx rfl (hb hby at_28) kK) ?_
  show OGo p e below _ (s₁.setTop (mkF m 29 #[.val (.long x0), .second, .val (.long y0), .second, .val (.long z0), .second, .val (.int k0), .val (.int nn), .val (.long qa), .second, .val (.long qb), .second, .val (.long qc), .second, .unset, .unset, .unset, .unset, .unset, .unset] [(.int (1 : Int32))]))
  obtain ⟨T1, h1, ki1, X1, e1, E1, A1, st1⟩ := newP X0 hx hZ (hw _ (List.mem_of_getElem? (i := 1) rfl)) e0 (g := (mkF m 29 #[.val (.long x0), .second, .val (.long y0), .second, .val (.long z0), .second, .val (.int k0), .val (.int nn), .val (.long qa), .second, .val (.long qb), .second, .val (.long qc), .second, .unset, .unset, .unset, .unset, .unset, .unset] [(.int (1 : Int32))])) rfl (hb hby at_29) rfl (by decide) (cap := 1) (by decide) (by decide) (by decide) (by decide)
  obtain ⟨b1, g1⟩ : ∃ z, z = h0.size := ⟨_, rfl⟩
  rw [← g1] at A1 st1
  have gn_b1 : n0 ≤ b1 := Nat.le_trans Z0 (Nat.le_of_eq g1.symm)
  have sz_b1 : h0.size ≤ b1 := Nat.le_trans (Keep.refl h0 []).1 (Nat.le_of_eq g1.symm)
  have ZS1 : n0 ≤ h1.size := Nat.le_trans Z0 E1.1
  have KC1 : Keep h0 h1 [] := (Keep.refl h0 []).ext E1
  have Od1 := Od.ext E1
  have V_b1 : Arv Z h1 b1 ki1 .char (1 : Int32) [(.int (0 : Int32))] (.int (0 : Int32)) := (Arv.new A1 (by decide)).pad (pad_rep [] (.int (0 : Int32)) 1)
  refine OGo.step (fun uK kK => st1 uK kK) ?_
  show OGo p e below _ (T1.setTop (mkF m 31 #[.val (.long x0), .second, .val (.long y0), .second, .val (.long z0), .second, .val (.int k0), .val (.int nn), .val (.long qa), .second, .val (.long qb), .second, .val (.long qc), .second, .unset, .unset, .unset, .unset, .unset, .unset] [(.ref b1)]))
  refine OGo.step (fun uK kK => XS.astore X1.here hx rfl (hb hby at_31) rfl rfl (l' := #[.val (.long x0), .second, .val (.long y0), .second, .val (.long z0), .second, .val (.int k0), .val (.int nn), .val (.long qa), .second, .val (.long qb), .second, .val (.long qc), .second, .val (.ref b1), .unset, .unset, .unset, .unset, .unset]) rfl kK) ?_
  show OGo p e below _ (T1.setTop (mkF m 33 #[.val (.long x0), .second, .val (.long y0), .second, .val (.long z0), .second, .val (.int k0), .val (.int nn), .val (.long qa), .second, .val (.long qb), .second, .val (.long qc), .second, .val (.ref b1), .unset, .unset, .unset, .unset, .unset] []))
  refine OGo.step (fun uK kK => XS.aload X1.here hx rfl (hb hby at_33) rfl rfl kK) ?_
  show OGo p e below _ (T1.setTop (mkF m 35 #[.val (.long x0), .second, .val (.long y0), .second, .val (.long z0), .second, .val (.int k0), .val (.int nn), .val (.long qa), .second, .val (.long qb), .second, .val (.long qc), .second, .val (.ref b1), .unset, .unset, .unset, .unset, .unset] [(.ref b1)]))
  refine OGo.step (fun uK kK => XS.iconst X1.here hx rfl (hb hby at_35) kK) ?_
  show OGo p e below _ (T1.setTop (mkF m 36 #[.val (.long x0), .second, .val (.long y0), .second, .val (.long z0), .second, .val (.int k0), .val (.int nn), .val (.long qa), .second, .val (.long qb), .second, .val (.long qc), .second, .val (.ref b1), .unset, .unset, .unset, .unset, .unset] [(.int (0 : Int32)), (.ref b1)]))
  refine OGo.step (fun uK kK => XS.iload X1.here hx rfl (hb hby at_36) rfl kK) ?_
  show OGo p e below _ (T1.setTop (mkF m 38 #[.val (.long x0), .second, .val (.long y0), .second, .val (.long z0), .second, .val (.int k0), .val (.int nn), .val (.long qa), .second, .val (.long qb), .second, .val (.long qc), .second, .val (.ref b1), .unset, .unset, .unset, .unset, .unset] [(.int k0), (.int (0 : Int32)), (.ref b1)]))
  refine OGo.step (fun uK kK => XS.iconst X1.here hx rfl (hb hby at_38) kK) ?_
  show OGo p e below _ (T1.setTop (mkF m 39 #[.val (.long x0), .second, .val (.long y0), .second, .val (.long z0), .second, .val (.int k0), .val (.int nn), .val (.long qa), .second, .val (.long qb), .second, .val (.long qc), .second, .val (.ref b1), .unset, .unset, .unset, .unset, .unset] [(.int (4 : Int32)), (.int k0), (.int (0 : Int32)), (.ref b1)]))
  refine OGo.step (fun uK kK => XS.iushr X1.here hx rfl (hb hby at_39) rfl kK) ?_
  show OGo p e below _ (T1.setTop (mkF m 40 #[.val (.long x0), .second, .val (.long y0), .second, .val (.long z0), .second, .val (.int k0), .val (.int nn), .val (.long qa), .second, .val (.long qb), .second, .val (.long qc), .second, .val (.ref b1), .unset, .unset, .unset, .unset, .unset] [(.int ((k0.toUInt32 >>> ((4 : Int32) &&& 31).toUInt32).toInt32)), (.int (0 : Int32)), (.ref b1)]))
  refine OGo.step (fun uK kK => XS.sipush X1.here hx rfl (hb hby at_40) kK) ?_
  show OGo p e below _ (T1.setTop (mkF m 43 #[.val (.long x0), .second, .val (.long y0), .second, .val (.long z0), .second, .val (.int k0), .val (.int nn), .val (.long qa), .second, .val (.long qb), .second, .val (.long qc), .second, .val (.ref b1), .unset, .unset, .unset, .unset, .unset] [(.int (255 : Int32)), (.int ((k0.toUInt32 >>> ((4 : Int32) &&& 31).toUInt32).toInt32)), (.int (0 : Int32)), (.ref b1)]))
  refine OGo.step (fun uK kK => XS.iand X1.here hx rfl (hb hby at_43) rfl kK) ?_
  show OGo p e below _ (T1.setTop (mkF m 44 #[.val (.long x0), .second, .val (.long y0), .second, .val (.long z0), .second, .val (.int k0), .val (.int nn), .val (.long qa), .second, .val (.long qb), .second, .val (.long qc), .second, .val (.ref b1), .unset, .unset, .unset, .unset, .unset] [(.int (((k0.toUInt32 >>> ((4 : Int32) &&& 31).toUInt32).toInt32) &&& (255 : Int32))), (.int (0 : Int32)), (.ref b1)]))
  refine OGo.step (fun uK kK => XS.i2c X1.here hx rfl (hb hby at_44) rfl kK) ?_
  show OGo p e below _ (T1.setTop (mkF m 45 #[.val (.long x0), .second, .val (.long y0), .second, .val (.long z0), .second, .val (.int k0), .val (.int nn), .val (.long qa), .second, .val (.long qb), .second, .val (.long qc), .second, .val (.ref b1), .unset, .unset, .unset, .unset, .unset] [(.int ((((k0.toUInt32 >>> ((4 : Int32) &&& 31).toUInt32).toInt32) &&& (255 : Int32)).toUInt32.toUInt16.toUInt32.toInt32)), (.int (0 : Int32)), (.ref b1)]))
  obtain ⟨cl2, Ar2, q2, S2, M2, H2, G2⟩ := id V_b1
  have hin2 : ¬ ((0 : Int32) < 0 ∨ cl2.slots.size ≤ ((0 : Int32)).toNatClampNeg) := inb_of S2 ⟨by decide, by decide⟩
  obtain ⟨T2, h2, X2, e2, W2, st2⟩ := stC X1 hx hZ e1 Ar2 (j := (0 : Int32)) hin2 (g := (mkF m 45 #[.val (.long x0), .second, .val (.long y0), .second, .val (.long z0), .second, .val (.int k0), .val (.int nn), .val (.long qa), .second, .val (.long qb), .second, .val (.long qc), .second, .val (.ref b1), .unset, .unset, .unset, .unset, .unset] [(.int ((((k0.toUInt32 >>> ((4 : Int32) &&& 31).toUInt32).toInt32) &&& (255 : Int32)).toUInt32.toUInt16.toUInt32.toInt32)), (.int (0 : Int32)), (.ref b1)])) rfl rfl (hb hby at_45)
  have V_b1_2 : Arv Z h2 b1 ki1 .char (1 : Int32) [(.int (nar .char ((((k0.toUInt32 >>> ((4 : Int32) &&& 31).toUInt32).toInt32) &&& (255 : Int32)).toUInt32.toUInt16.toUInt32.toInt32)))] (.int (0 : Int32)) := Arv.set Ar2 q2 S2 M2 H2 G2 (fits_nar_char _) W2 0 rfl (Nat.le_of_ble_eq_true rfl)
  have ZS2 : n0 ≤ h2.size := Nat.le_trans ZS1 (Keep.of_wr W2).1
  have KC2 : Keep h0 h2 [] := KC1.wr W2 (Or.inr sz_b1)
  have N2 := Fr.snoc X2 N0 gn_b1
  have Od2 := Od1.wr W2 gn_b1
  refine OGo.step (fun uK kK => st2 uK kK) ?_
  show OGo p e below _ (T2.setTop (mkF m 46 #[.val (.long x0), .second, .val (.long y0), .second, .val (.long z0), .second, .val (.int k0), .val (.int nn), .val (.long qa), .second, .val (.long qb), .second, .val (.long qc), .second, .val (.ref b1), .unset, .unset, .unset, .unset, .unset] []))
  obtain ⟨c0, ev_c0⟩ : ∃ z : Int32, z = (nar .char ((((k0.toUInt32 >>> ((4 : Int32) &&& 31).toUInt32).toInt32) &&& (255 : Int32)).toUInt32.toUInt16.toUInt32.toInt32)) := ⟨_, rfl⟩
  rw [← ev_c0] at V_b1_2
  have hc0 := own_c255 k0 c0 ev_c0
  obtain ⟨T4, h4, X4, e4, E4, A4, D4, -, st4⟩ := newO X2 hx hZ hown (hw _ (List.mem_of_getElem? (i := 2) rfl)) (hw _ (List.mem_of_getElem? (i := 3) rfl)) (hw _ (List.mem_of_getElem? (i := 4) rfl)) e2 (g := (mkF m 46 #[.val (.long x0), .second, .val (.long y0), .second, .val (.long z0), .second, .val (.int k0), .val (.int nn), .val (.long qa), .second, .val (.long qb), .second, .val (.long qc), .second, .val (.ref b1), .unset, .unset, .unset, .unset, .unset] [])) rfl (hb hby at_46) (by decide) (by decide)
  obtain ⟨b4, g4⟩ : ∃ z, z = h2.size := ⟨_, rfl⟩
  rw [← g4] at A4 D4 st4
  have ne_b1_b4 : b1 ≠ b4 := Nat.ne_of_lt (Nat.lt_of_lt_of_le V_b1_2.lt (Nat.le_of_eq g4.symm))
  have gn_b4 : n0 ≤ b4 := Nat.le_trans ZS2 (Nat.le_of_eq g4.symm)
  have sz_b4 : h0.size ≤ b4 := Nat.le_trans KC2.1 (Nat.le_of_eq g4.symm)
  have V_b1_5 := (V_b1_2.ext E4)
  have ZS4 : n0 ≤ h4.size := Nat.le_trans ZS2 E4.1
  have KC4 : Keep h0 h4 [] := KC2.ext E4
  have Od4 := Od2.ext E4
  have Fstate_b4 : Fld Z h4 b4 "com/example/graph_of_conflicts/graphofconflicts/engine/Transaction" "state" "Lcom/example/graph_of_conflicts/graphofconflicts/api/TransactionState;" .null := D4 (Or.inl (hw _ (List.mem_of_getElem? (i := 49) rfl))) (ty := (.object "com/example/graph_of_conflicts/graphofconflicts/api/TransactionState")) (by decide)
  have Fstart_b4 : Fld Z h4 b4 "com/example/graph_of_conflicts/graphofconflicts/engine/Transaction" "start" "J" (.long (0 : Int64)) := D4 (Or.inl (hw _ (List.mem_of_getElem? (i := 52) rfl))) (ty := .long) (by decide)
  have Fsnapshot_b4 : Fld Z h4 b4 "com/example/graph_of_conflicts/graphofconflicts/engine/Transaction" "snapshot" "J" (.long (0 : Int64)) := D4 (Or.inl (hw _ (List.mem_of_getElem? (i := 54) rfl))) (ty := .long) (by decide)
  have FwrittenKeys_b4 : Fld Z h4 b4 "com/example/graph_of_conflicts/graphofconflicts/engine/Transaction" "writtenKeys" "Lcom/example/graph_of_conflicts/graphofconflicts/engine/KeysByTable;" .null := D4 (Or.inl (hw _ (List.mem_of_getElem? (i := 71) rfl))) (ty := (.object "com/example/graph_of_conflicts/graphofconflicts/engine/KeysByTable")) (by decide)
  have FlockedTables_b4 : Fld Z h4 b4 "com/example/graph_of_conflicts/graphofconflicts/engine/Transaction" "lockedTables" "Ljava/util/Set;" .null := D4 (Or.inr (hw _ (List.mem_of_getElem? (i := 142) rfl))) (ty := (.object "java/util/Set")) (by decide)
  have Fnode_b4 : Fld Z h4 b4 "com/example/graph_of_conflicts/graphofconflicts/engine/Transaction" "node" "Lcom/example/graph_of_conflicts/graphofconflicts/engine/Node;" .null := D4 (Or.inr (hw _ (List.mem_of_getElem? (i := 168) rfl))) (ty := (.object "com/example/graph_of_conflicts/graphofconflicts/engine/Node")) (by decide)
  have Flevel_b4 : Fld Z h4 b4 "com/example/graph_of_conflicts/graphofconflicts/engine/Transaction" "level" "Lcom/example/graph_of_conflicts/graphofconflicts/api/IsolationLevel;" .null := D4 (Or.inr (hw _ (List.mem_of_getElem? (i := 170) rfl))) (ty := (.object "com/example/graph_of_conflicts/graphofconflicts/api/IsolationLevel")) (by decide)
  have Flabel_b4 : Fld Z h4 b4 "com/example/graph_of_conflicts/graphofconflicts/engine/Transaction" "label" "Ljava/lang/String;" .null := D4 (Or.inr (hw _ (List.mem_of_getElem? (i := 172) rfl))) (ty := (.object "java/lang/String")) (by decide)
  have Fhash_b4 : Fld Z h4 b4 "com/example/graph_of_conflicts/graphofconflicts/engine/Transaction" "hash" "I" (.int (0 : Int32)) := D4 (Or.inr (hw _ (List.mem_of_getElem? (i := 192) rfl))) (ty := .int) (by decide)
  refine OGo.step (fun uK kK => st4 uK kK) ?_
  show OGo p e below _ (T4.setTop (mkF m 49 #[.val (.long x0), .second, .val (.long y0), .second, .val (.long z0), .second, .val (.int k0), .val (.int nn), .val (.long qa), .second, .val (.long qb), .second, .val (.long qc), .second, .val (.ref b1), .unset, .unset, .unset, .unset, .unset] [(.ref b4)]))
  refine OGo.step (fun uK kK => XS.dup X4.here hx rfl (hb hby at_49) rfl rfl kK) ?_
  show OGo p e below _ (T4.setTop (mkF m 50 #[.val (.long x0), .second, .val (.long y0), .second, .val (.long z0), .second, .val (.int k0), .val (.int nn), .val (.long qa), .second, .val (.long qb), .second, .val (.long qc), .second, .val (.ref b1), .unset, .unset, .unset, .unset, .unset] [(.ref b4), (.ref b4)]))
  refine OGo.step (fun uK kK => XS.iload X4.here hx rfl (hb hby at_50) rfl kK) ?_
  show OGo p e below _ (T4.setTop (mkF m 52 #[.val (.long x0), .second, .val (.long y0), .second, .val (.long z0), .second, .val (.int k0), .val (.int nn), .val (.long qa), .second, .val (.long qb), .second, .val (.long qc), .second, .val (.ref b1), .unset, .unset, .unset, .unset, .unset] [(.int k0), (.ref b4), (.ref b4)]))
  refine OGo.step (fun uK kK => XS.iconst X4.here hx rfl (hb hby at_52) kK) ?_
  show OGo p e below _ (T4.setTop (mkF m 53 #[.val (.long x0), .second, .val (.long y0), .second, .val (.long z0), .second, .val (.int k0), .val (.int nn), .val (.long qa), .second, .val (.long qb), .second, .val (.long qc), .second, .val (.ref b1), .unset, .unset, .unset, .unset, .unset] [(.int (2 : Int32)), (.int k0), (.ref b4), (.ref b4)]))
  refine OGo.step (fun uK kK => XS.iushr X4.here hx rfl (hb hby at_53) rfl kK) ?_
  show OGo p e below _ (T4.setTop (mkF m 54 #[.val (.long x0), .second, .val (.long y0), .second, .val (.long z0), .second, .val (.int k0), .val (.int nn), .val (.long qa), .second, .val (.long qb), .second, .val (.long qc), .second, .val (.ref b1), .unset, .unset, .unset, .unset, .unset] [(.int ((k0.toUInt32 >>> ((2 : Int32) &&& 31).toUInt32).toInt32)), (.ref b4), (.ref b4)]))
  obtain ⟨_, _, ⟨T6, Lq6, kq_6, nq_6⟩, -, X6, ⟨Lc6, hQ6, lq6, yq6, zq6⟩, st6⟩ := Jvm.LawKit.callS X4 hx (y := (⟨"com/example/graph_of_conflicts/graphofconflicts/engine/TransactionTakeSnapshotPinLaw", "level", "(I)Lcom/example/graph_of_conflicts/graphofconflicts/api/IsolationLevel;"⟩ : MethodName)) hown (mvT hZ (hw _ (List.mem_of_getElem? (i := 5) rfl))) (mvT hZ (hw _ (List.mem_of_getElem? (i := 6) rfl))) (mvT hZ (hw _ (List.mem_of_getElem? (i := 7) rfl))) (mvT hZ (hw _ (List.mem_of_getElem? (i := 8) rfl))) (by decide) (backOf (W := 2) (rmlv l Z a0 hw [] ((k0.toUInt32 >>> ((2 : Int32) &&& 31).toUInt32).toInt32) a_READ_COMMITTED a_REPEATABLE_READ a_SERIALIZABLE h4 n0 ZS4 S_READ_COMMITTED S_REPEATABLE_READ S_SERIALIZABLE Od4) hZ (hw _ (List.mem_of_getElem? (i := 8) rfl)) (hw _ (List.mem_of_getElem? (i := 7) rfl)) (by decide) (by decide)) (g := (mkF m 54 #[.val (.long x0), .second, .val (.long y0), .second, .val (.long z0), .second, .val (.int k0), .val (.int nn), .val (.long qa), .second, .val (.long qb), .second, .val (.long qc), .second, .val (.ref b1), .unset, .unset, .unset, .unset, .unset] [(.int ((k0.toUInt32 >>> ((2 : Int32) &&& 31).toUInt32).toInt32)), (.ref b4), (.ref b4)])) rfl (by rw [hml]; rfl) (argsL := [(.int ((k0.toUInt32 >>> ((2 : Int32) &&& 31).toUInt32).toInt32))]) (rest := [(.ref b4), (.ref b4)]) (lenOf pd0_0 rfl) rfl (by show 2 * 0 + _ ≤ _; exact Nat.le_of_eq rfl) (hb hby at_54) (fun _ _ => ⟨rfl, e4, (by decide : 2 + 0 ≤ _), (by decide : 13 + 0 ≤ _)⟩)
  dsimp only [Pt.U, Pt.locs, Pt.cells, Pt.slots] at X6 lq6 yq6 zq6 st6 hQ6
  subst lq6 yq6 zq6
  obtain ⟨lv, rfl, Nq6, e6⟩ := hQ6
  have N6 := Fr.app N2 Nq6
  refine OGo.step (fun uK kK => st6 uK kK) ?_
  show OGo p e below _ (T6.setTop (mkF m 57 #[.val (.long x0), .second, .val (.long y0), .second, .val (.long z0), .second, .val (.int k0), .val (.int nn), .val (.long qa), .second, .val (.long qb), .second, .val (.long qc), .second, .val (.ref b1), .unset, .unset, .unset, .unset, .unset] [(.ref lv), (.ref b4), (.ref b4)]))
  obtain ⟨T7, h7, X7, e7, E7, A7, D7, -, st7⟩ := newO X6 hx hZ hown (hw _ (List.mem_of_getElem? (i := 12) rfl)) (hw _ (List.mem_of_getElem? (i := 13) rfl)) (hw _ (List.mem_of_getElem? (i := 14) rfl)) e6 (g := (mkF m 57 #[.val (.long x0), .second, .val (.long y0), .second, .val (.long z0), .second, .val (.int k0), .val (.int nn), .val (.long qa), .second, .val (.long qb), .second, .val (.long qc), .second, .val (.ref b1), .unset, .unset, .unset, .unset, .unset] [(.ref lv), (.ref b4), (.ref b4)])) rfl (hb hby at_57) (by decide) (by decide)
  obtain ⟨b7, g7⟩ : ∃ z, z = h4.size := ⟨_, rfl⟩
  rw [← g7] at A7 D7 st7
  have ne_b1_b7 : b1 ≠ b7 := Nat.ne_of_lt (Nat.lt_of_lt_of_le V_b1_5.lt (Nat.le_of_eq g7.symm))
  have ne_b4_b7 : b4 ≠ b7 := Nat.ne_of_lt (Nat.lt_of_lt_of_le A4.lt (Nat.le_of_eq g7.symm))
  have gn_b7 : n0 ≤ b7 := Nat.le_trans ZS4 (Nat.le_of_eq g7.symm)
  have sz_b7 : h0.size ≤ b7 := Nat.le_trans KC4.1 (Nat.le_of_eq g7.symm)
  have V_b1_8 := (V_b1_5.ext E7)
  have A4_9 := (A4.ext E7)
  have Fstate_b4_10 := (Fstate_b4.ext E7)
  have Fstart_b4_11 := (Fstart_b4.ext E7)
  have Fsnapshot_b4_12 := (Fsnapshot_b4.ext E7)
  have FwrittenKeys_b4_13 := (FwrittenKeys_b4.ext E7)
  have FlockedTables_b4_14 := (FlockedTables_b4.ext E7)
  have Fnode_b4_15 := (Fnode_b4.ext E7)
  have Flevel_b4_16 := (Flevel_b4.ext E7)
  have Flabel_b4_17 := (Flabel_b4.ext E7)
  have Fhash_b4_18 := (Fhash_b4.ext E7)
  have ZS7 : n0 ≤ h7.size := Nat.le_trans ZS4 E7.1
  have KC7 : Keep h0 h7 [] := KC4.ext E7
  have Od7 := Od4.ext E7
  have Fcoder_b7 : Fld Z h7 b7 "java/lang/String" "coder" "B" (.int (0 : Int32)) := D7 (Or.inr (hw _ (List.mem_of_getElem? (i := 38) rfl))) (ty := .byte) (by decide)
  have Fvalue_b7 : Fld Z h7 b7 "java/lang/String" "value" "[B" .null := D7 (Or.inr (hw _ (List.mem_of_getElem? (i := 40) rfl))) (ty := (.array .byte)) (by decide)
  have Fhash_b7 : Fld Z h7 b7 "java/lang/String" "hash" "I" (.int (0 : Int32)) := D7 (Or.inl (hw _ (List.mem_of_getElem? (i := 179) rfl))) (ty := .int) (by decide)
  have FhashIsZero_b7 : Fld Z h7 b7 "java/lang/String" "hashIsZero" "Z" (.int (0 : Int32)) := D7 (Or.inl (hw _ (List.mem_of_getElem? (i := 181) rfl))) (ty := .boolean) (by decide)
  refine OGo.step (fun uK kK => st7 uK kK) ?_
  show OGo p e below _ (T7.setTop (mkF m 60 #[.val (.long x0), .second, .val (.long y0), .second, .val (.long z0), .second, .val (.int k0), .val (.int nn), .val (.long qa), .second, .val (.long qb), .second, .val (.long qc), .second, .val (.ref b1), .unset, .unset, .unset, .unset, .unset] [(.ref b7), (.ref lv), (.ref b4), (.ref b4)]))
  refine OGo.step (fun uK kK => XS.dup X7.here hx rfl (hb hby at_60) rfl rfl kK) ?_
  show OGo p e below _ (T7.setTop (mkF m 61 #[.val (.long x0), .second, .val (.long y0), .second, .val (.long z0), .second, .val (.int k0), .val (.int nn), .val (.long qa), .second, .val (.long qb), .second, .val (.long qc), .second, .val (.ref b1), .unset, .unset, .unset, .unset, .unset] [(.ref b7), (.ref b7), (.ref lv), (.ref b4), (.ref b4)]))
  refine OGo.step (fun uK kK => XS.aload X7.here hx rfl (hb hby at_61) rfl rfl kK) ?_
  show OGo p e below _ (T7.setTop (mkF m 63 #[.val (.long x0), .second, .val (.long y0), .second, .val (.long z0), .second, .val (.int k0), .val (.int nn), .val (.long qa), .second, .val (.long qb), .second, .val (.long qc), .second, .val (.ref b1), .unset, .unset, .unset, .unset, .unset] [(.ref b1), (.ref b7), (.ref b7), (.ref lv), (.ref b4), (.ref b4)]))
  obtain ⟨_, _, ⟨T19, Lq19, kq_19, nq_19⟩, -, X19, ⟨Lc19, hQ19, lq19, yq19, zq19⟩, st19⟩ := X7.specialBack hx (y := (⟨"java/lang/String", "<init>", "([C)V"⟩ : MethodName)) rfl hown (mvT hZ (hw _ (List.mem_of_getElem? (i := 15) rfl))) (mvT hZ (hw _ (List.mem_of_getElem? (i := 16) rfl))) (mvT hZ (hw _ (List.mem_of_getElem? (i := 17) rfl))) (by decide) (backOf (W := 4) (rms1 l Z a0 hw [] b7 b1 ki1 c0 cs h7 n0 ZS7 Fvalue_b7 Fcoder_b7 Fhash_b7 FhashIsZero_b7 A7 gn_b7 V_b1_8 (Ne.symm ne_b1_b7) hc0 SCS hcs Od7) hZ (hw _ (List.mem_of_getElem? (i := 17) rfl)) (hw _ (List.mem_of_getElem? (i := 14) rfl)) (by decide) (by decide)) (g := (mkF m 63 #[.val (.long x0), .second, .val (.long y0), .second, .val (.long z0), .second, .val (.int k0), .val (.int nn), .val (.long qa), .second, .val (.long qb), .second, .val (.long qc), .second, .val (.ref b1), .unset, .unset, .unset, .unset, .unset] [(.ref b1), (.ref b7), (.ref b7), (.ref lv), (.ref b4), (.ref b4)])) rfl (by rw [hml]; rfl) (Steps.refl _) (a := b7) (argsL := [(.ref b1)]) (rest := [(.ref b7), (.ref lv), (.ref b4), (.ref b4)]) (lenOf pd0_1 rfl) rfl (by show 2 * 0 + _ ≤ _; exact Nat.le_of_eq rfl) (hb hby at_63) (fun _ _ => ⟨rfl, e7, (by decide : 3 + 1 ≤ _), (by decide : 17 + 1 ≤ _)⟩)
  dsimp only [Pt.U, Pt.locs, Pt.cells, Pt.slots] at X19 lq19 yq19 zq19 st19 hQ19
  subst lq19 yq19 zq19
  obtain ⟨rfl, Nq19, K19, aV, kV, gV, zV, Gvalue19, Gcoder19, Ghash19, GhashIsZero19, Vb19⟩ := hQ19
  have V_b1_20 := (V_b1_8.keep K19 (ninS ne_b1_b7 nin0))
  have A4_21 := (A4_9.keep K19)
  have Fstate_b4_22 := (Fstate_b4_10.keep K19 (ninS ne_b4_b7 nin0))
  have Fstart_b4_23 := (Fstart_b4_11.keep K19 (ninS ne_b4_b7 nin0))
  have Fsnapshot_b4_24 := (Fsnapshot_b4_12.keep K19 (ninS ne_b4_b7 nin0))
  have FwrittenKeys_b4_25 := (FwrittenKeys_b4_13.keep K19 (ninS ne_b4_b7 nin0))
  have FlockedTables_b4_26 := (FlockedTables_b4_14.keep K19 (ninS ne_b4_b7 nin0))
  have Fnode_b4_27 := (Fnode_b4_15.keep K19 (ninS ne_b4_b7 nin0))
  have Flevel_b4_28 := (Flevel_b4_16.keep K19 (ninS ne_b4_b7 nin0))
  have Flabel_b4_29 := (Flabel_b4_17.keep K19 (ninS ne_b4_b7 nin0))
  have Fhash_b4_30 := (Fhash_b4_18.keep K19 (ninS ne_b4_b7 nin0))
  have A7_31 := (A7.keep K19)
  have ZS19 : n0 ≤ T19.heap.size := Nat.le_trans ZS7 K19.1
  have KC19 : Keep h0 T19.heap [] := KC7.trans K19 (allS (Or.inr sz_b7) all0)
  have Od19 := Od7.keep K19 (allS gn_b7 all0)
  have N19 := Fr.app N6 Nq19
  refine OGo.steps st19 ?_
  show OGo p e below _ (T19.setTop (mkF m 66 #[.val (.long x0), .second, .val (.long y0), .second, .val (.long z0), .second, .val (.int k0), .val (.int nn), .val (.long qa), .second, .val (.long qb), .second, .val (.long qc), .second, .val (.ref b1), .unset, .unset, .unset, .unset, .unset] [(.ref b7), (.ref lv), (.ref b4), (.ref b4)]))
  have sz_aV : h0.size ≤ aV := Nat.le_trans KC7.1 zV
  have ne_b7_aV : b7 ≠ aV := Nat.ne_of_lt (Nat.lt_of_lt_of_le A7.lt zV)
  have ne_b4_aV : b4 ≠ aV := Nat.ne_of_lt (Nat.lt_of_lt_of_le A4_9.lt zV)
  obtain ⟨_, _, ⟨T36, Lq36, kq_36, nq_36⟩, -, X36, ⟨Lc36, hQ36, lq36, yq36, zq36⟩, st36⟩ := X19.specialBack hx (y := (⟨"com/example/graph_of_conflicts/graphofconflicts/engine/Transaction", "<init>", "(Lcom/example/graph_of_conflicts/graphofconflicts/api/IsolationLevel;Ljava/lang/String;)V"⟩ : MethodName)) rfl hown (mvT hZ (hw _ (List.mem_of_getElem? (i := 41) rfl))) (mvT hZ (hw _ (List.mem_of_getElem? (i := 42) rfl))) (mvT hZ (hw _ (List.mem_of_getElem? (i := 43) rfl))) (by decide) (backOf (W := 1) (rmtr l Z a0 hw [] b4 lv b7 aV kV (nar .byte (c0.toInt8.toInt32)) cs aE aA T19.heap n0 ZS19 Fstate_b4_22 Fstart_b4_23 Fsnapshot_b4_24 FwrittenKeys_b4_25 FlockedTables_b4_26 Fnode_b4_27 Flevel_b4_28 Flabel_b4_29 Fhash_b4_30 A4_21 gn_b4 Gvalue19 Gcoder19 Ghash19 GhashIsZero19 Vb19 A7_31 gn_b7 ne_b7_aV ne_b4_b7 ne_b4_aV SCS hcs SES SAC Od19) hZ (hw _ (List.mem_of_getElem? (i := 43) rfl)) (hw _ (List.mem_of_getElem? (i := 4) rfl)) (by decide) (by decide)) (g := (mkF m 66 #[.val (.long x0), .second, .val (.long y0), .second, .val (.long z0), .second, .val (.int k0), .val (.int nn), .val (.long qa), .second, .val (.long qb), .second, .val (.long qc), .second, .val (.ref b1), .unset, .unset, .unset, .unset, .unset] [(.ref b7), (.ref lv), (.ref b4), (.ref b4)])) rfl (by rw [hml]; rfl) (Steps.refl _) (a := b4) (argsL := [(.ref lv), (.ref b7)]) (rest := [(.ref b4)]) (lenOf pd0_2 rfl) rfl (by show 2 * 0 + _ ≤ _; exact Nat.le_of_eq rfl) (hb hby at_66) (fun _ _ => ⟨rfl, rfl, (by decide : 4 + 7 ≤ _), (by decide : 18 + 54 ≤ _)⟩)
  dsimp only [Pt.U, Pt.locs, Pt.cells, Pt.slots] at X36 lq36 yq36 zq36 st36 hQ36
  subst lq36 yq36 zq36
  obtain ⟨rfl, Nq36, K36, Fs36, Fq36⟩ := hQ36
  have A4_37 := (A4_21.keep K36)
  have A7_47 := (A7_31.keep K36)
  have Vb19_52 := (Vb19.keep K36 (ninS (Ne.symm ne_b4_aV) (ninS (Ne.symm ne_b7_aV) nin0)))
  have ZS36 : n0 ≤ T36.heap.size := Nat.le_trans ZS19 K36.1
  have KC36 : Keep h0 T36.heap [] := KC19.trans K36 (allS (Or.inr sz_b4) (allS (Or.inr sz_b7) all0))
  have Od36 := Od19.keep K36 (allS gn_b4 (allS gn_b7 all0))
  have N36 := Fr.app N19 Nq36
  refine OGo.steps st36 ?_
  show OGo p e below _ (T36.setTop (mkF m 69 #[.val (.long x0), .second, .val (.long y0), .second, .val (.long z0), .second, .val (.int k0), .val (.int nn), .val (.long qa), .second, .val (.long qb), .second, .val (.long qc), .second, .val (.ref b1), .unset, .unset, .unset, .unset, .unset] [(.ref b4)]))
  refine OGo.step (fun uK kK => XS.astore X36.here hx rfl (hb hby at_69) rfl rfl (l' := #[.val (.long x0), .second, .val (.long y0), .second, .val (.long z0), .second, .val (.int k0), .val (.int nn), .val (.long qa), .second, .val (.long qb), .second, .val (.long qc), .second, .val (.ref b1), .val (.ref b4), .unset, .unset, .unset, .unset]) rfl kK) ?_
  show OGo p e below _ (T36.setTop (mkF m 71 #[.val (.long x0), .second, .val (.long y0), .second, .val (.long z0), .second, .val (.int k0), .val (.int nn), .val (.long qa), .second, .val (.long qb), .second, .val (.long qc), .second, .val (.ref b1), .val (.ref b4), .unset, .unset, .unset, .unset] []))
  rcases own_n4 k0 nn ev_nn with h | h | h | h
  · skip
    subst h
    show OGo p e below _ (T36.setTop (mkF m 71 #[.val (.long x0), .second, .val (.long y0), .second, .val (.long z0), .second, .val (.int k0), .val (.int (0 : Int32)), .val (.long qa), .second, .val (.long qb), .second, .val (.long qc), .second, .val (.ref b1), .val (.ref b4), .unset, .unset, .unset, .unset] []))
    refine OGo.step (fun uK kK => XS.iload X36.here hx rfl (hb hby at_71) rfl kK) ?_
    show OGo p e below _ (T36.setTop (mkF m 73 #[.val (.long x0), .second, .val (.long y0), .second, .val (.long z0), .second, .val (.int k0), .val (.int (0 : Int32)), .val (.long qa), .second, .val (.long qb), .second, .val (.long qc), .second, .val (.ref b1), .val (.ref b4), .unset, .unset, .unset, .unset] [(.int (0 : Int32))]))
    refine OGo.step (fun uK kK => XS.iconst X36.here hx rfl (hb hby at_73) kK) ?_
    show OGo p e below _ (T36.setTop (mkF m 74 #[.val (.long x0), .second, .val (.long y0), .second, .val (.long z0), .second, .val (.int k0), .val (.int (0 : Int32)), .val (.long qa), .second, .val (.long qb), .second, .val (.long qc), .second, .val (.ref b1), .val (.ref b4), .unset, .unset, .unset, .unset] [(.int (1 : Int32)), (.int (0 : Int32))]))
    have hc74 : (0 : Int32) < (1 : Int32) := by decide
    refine OGo.step (fun uK kK => XS.icmpYes X36.here hx rfl (pc0 := 74) (pc' := 84) rfl (hb hby at_74) rfl (tlt hc74).1 (by decide) (by decide) kK) ?_
    show OGo p e below _ (T36.setTop (mkF m 84 #[.val (.long x0), .second, .val (.long y0), .second, .val (.long z0), .second, .val (.int k0), .val (.int (0 : Int32)), .val (.long qa), .second, .val (.long qb), .second, .val (.long qc), .second, .val (.ref b1), .val (.ref b4), .unset, .unset, .unset, .unset] []))
    refine OGo.step (fun uK kK => XS.iload X36.here hx rfl (hb hby at_84) rfl kK) ?_
    show OGo p e below _ (T36.setTop (mkF m 86 #[.val (.long x0), .second, .val (.long y0), .second, .val (.long z0), .second, .val (.int k0), .val (.int (0 : Int32)), .val (.long qa), .second, .val (.long qb), .second, .val (.long qc), .second, .val (.ref b1), .val (.ref b4), .unset, .unset, .unset, .unset] [(.int (0 : Int32))]))
    refine OGo.step (fun uK kK => XS.iconst X36.here hx rfl (hb hby at_86) kK) ?_
    show OGo p e below _ (T36.setTop (mkF m 87 #[.val (.long x0), .second, .val (.long y0), .second, .val (.long z0), .second, .val (.int k0), .val (.int (0 : Int32)), .val (.long qa), .second, .val (.long qb), .second, .val (.long qc), .second, .val (.ref b1), .val (.ref b4), .unset, .unset, .unset, .unset] [(.int (2 : Int32)), (.int (0 : Int32))]))
    have hc87 : (0 : Int32) < (2 : Int32) := by decide
    refine OGo.step (fun uK kK => XS.icmpYes X36.here hx rfl (pc0 := 87) (pc' := 97) rfl (hb hby at_87) rfl (tlt hc87).1 (by decide) (by decide) kK) ?_
    show OGo p e below _ (T36.setTop (mkF m 97 #[.val (.long x0), .second, .val (.long y0), .second, .val (.long z0), .second, .val (.int k0), .val (.int (0 : Int32)), .val (.long qa), .second, .val (.long qb), .second, .val (.long qc), .second, .val (.ref b1), .val (.ref b4), .unset, .unset, .unset, .unset] []))
    refine OGo.step (fun uK kK => XS.iload X36.here hx rfl (hb hby at_97) rfl kK) ?_
    show OGo p e below _ (T36.setTop (mkF m 99 #[.val (.long x0), .second, .val (.long y0), .second, .val (.long z0), .second, .val (.int k0), .val (.int (0 : Int32)), .val (.long qa), .second, .val (.long qb), .second, .val (.long qc), .second, .val (.ref b1), .val (.ref b4), .unset, .unset, .unset, .unset] [(.int (0 : Int32))]))
    refine OGo.step (fun uK kK => XS.iconst X36.here hx rfl (hb hby at_99) kK) ?_
    show OGo p e below _ (T36.setTop (mkF m 100 #[.val (.long x0), .second, .val (.long y0), .second, .val (.long z0), .second, .val (.int k0), .val (.int (0 : Int32)), .val (.long qa), .second, .val (.long qb), .second, .val (.long qc), .second, .val (.ref b1), .val (.ref b4), .unset, .unset, .unset, .unset] [(.int (3 : Int32)), (.int (0 : Int32))]))
    have hc100 : (0 : Int32) < (3 : Int32) := by decide
    refine OGo.step (fun uK kK => XS.icmpYes X36.here hx rfl (pc0 := 100) (pc' := 110) rfl (hb hby at_100) rfl (tlt hc100).1 (by decide) (by decide) kK) ?_
    show OGo p e below _ (T36.setTop (mkF m 110 #[.val (.long x0), .second, .val (.long y0), .second, .val (.long z0), .second, .val (.int k0), .val (.int (0 : Int32)), .val (.long qa), .second, .val (.long qb), .second, .val (.long qc), .second, .val (.ref b1), .val (.ref b4), .unset, .unset, .unset, .unset] []))
    refine OGo.step (fun uK kK => XS.iload X36.here hx rfl (hb hby at_110) rfl kK) ?_
    show OGo p e below _ (T36.setTop (mkF m 112 #[.val (.long x0), .second, .val (.long y0), .second, .val (.long z0), .second, .val (.int k0), .val (.int (0 : Int32)), .val (.long qa), .second, .val (.long qb), .second, .val (.long qc), .second, .val (.ref b1), .val (.ref b4), .unset, .unset, .unset, .unset] [(.int (0 : Int32))]))
    have hc112 : (0 : Int32) = (0 : Int32) := by decide
    refine OGo.step (fun uK kK => XS.ifNo X36.here hx rfl (hb hby at_112) rfl ((if0 _ _).trans (teq hc112).2) kK) ?_
    show OGo p e below _ (T36.setTop (mkF m 115 #[.val (.long x0), .second, .val (.long y0), .second, .val (.long z0), .second, .val (.int k0), .val (.int (0 : Int32)), .val (.long qa), .second, .val (.long qb), .second, .val (.long qc), .second, .val (.ref b1), .val (.ref b4), .unset, .unset, .unset, .unset] []))
    refine OGo.step (fun uK kK => X36.ldc2J hx hown (mvT hZ (hw _ (List.mem_of_getElem? (i := 213) rfl))) rfl (hb hby at_115) kK) ?_
    show OGo p e below _ (T36.setTop (mkF m 118 #[.val (.long x0), .second, .val (.long y0), .second, .val (.long z0), .second, .val (.int k0), .val (.int (0 : Int32)), .val (.long qa), .second, .val (.long qb), .second, .val (.long qc), .second, .val (.ref b1), .val (.ref b4), .unset, .unset, .unset, .unset] [(.long (-1 : Int64))]))
    refine OGo.step (fun uK kK => XS.lstore X36.here hx rfl (hb hby at_118) rfl (l' := #[.val (.long x0), .second, .val (.long y0), .second, .val (.long z0), .second, .val (.int k0), .val (.int (0 : Int32)), .val (.long qa), .second, .val (.long qb), .second, .val (.long qc), .second, .val (.ref b1), .val (.ref b4), .val (.long (-1 : Int64)), .second, .unset, .unset]) rfl kK) ?_
    show OGo p e below _ (T36.setTop (mkF m 120 #[.val (.long x0), .second, .val (.long y0), .second, .val (.long z0), .second, .val (.int k0), .val (.int (0 : Int32)), .val (.long qa), .second, .val (.long qb), .second, .val (.long qc), .second, .val (.ref b1), .val (.ref b4), .val (.long (-1 : Int64)), .second, .unset, .unset] []))
    refine OGo.step (fun uK kK => XS.goto X36.here hx rfl (pc0 := 120) (pc' := 153) rfl (hb hby at_120) (by decide) (by decide) kK) ?_
    show OGo p e below _ (T36.setTop (mkF m 153 #[.val (.long x0), .second, .val (.long y0), .second, .val (.long z0), .second, .val (.int k0), .val (.int (0 : Int32)), .val (.long qa), .second, .val (.long qb), .second, .val (.long qc), .second, .val (.ref b1), .val (.ref b4), .val (.long (-1 : Int64)), .second, .unset, .unset] []))
    refine OGo.step (fun uK kK => XS.iload X36.here hx rfl (hb hby at_153) rfl kK) ?_
    show OGo p e below _ (T36.setTop (mkF m 155 #[.val (.long x0), .second, .val (.long y0), .second, .val (.long z0), .second, .val (.int k0), .val (.int (0 : Int32)), .val (.long qa), .second, .val (.long qb), .second, .val (.long qc), .second, .val (.ref b1), .val (.ref b4), .val (.long (-1 : Int64)), .second, .unset, .unset] [(.int (0 : Int32))]))
    have hc155 : (0 : Int32) = (0 : Int32) := by decide
    refine OGo.step (fun uK kK => XS.ifNo X36.here hx rfl (hb hby at_155) rfl ((if0 _ _).trans (teq hc155).2) kK) ?_
    show OGo p e below _ (T36.setTop (mkF m 158 #[.val (.long x0), .second, .val (.long y0), .second, .val (.long z0), .second, .val (.int k0), .val (.int (0 : Int32)), .val (.long qa), .second, .val (.long qb), .second, .val (.long qc), .second, .val (.ref b1), .val (.ref b4), .val (.long (-1 : Int64)), .second, .unset, .unset] []))
    refine OGo.step (fun uK kK => X36.ldc2J hx hown (mvT hZ (hw _ (List.mem_of_getElem? (i := 213) rfl))) rfl (hb hby at_158) kK) ?_
    show OGo p e below _ (T36.setTop (mkF m 161 #[.val (.long x0), .second, .val (.long y0), .second, .val (.long z0), .second, .val (.int k0), .val (.int (0 : Int32)), .val (.long qa), .second, .val (.long qb), .second, .val (.long qc), .second, .val (.ref b1), .val (.ref b4), .val (.long (-1 : Int64)), .second, .unset, .unset] [(.long (-1 : Int64))]))
    refine OGo.step (fun uK kK => XS.goto X36.here hx rfl (pc0 := 161) (pc' := 166) rfl (hb hby at_161) (by decide) (by decide) kK) ?_
    show OGo p e below _ (T36.setTop (mkF m 166 #[.val (.long x0), .second, .val (.long y0), .second, .val (.long z0), .second, .val (.int k0), .val (.int (0 : Int32)), .val (.long qa), .second, .val (.long qb), .second, .val (.long qc), .second, .val (.ref b1), .val (.ref b4), .val (.long (-1 : Int64)), .second, .unset, .unset] [(.long (-1 : Int64))]))
    refine OGo.step (fun uK kK => XS.lstore X36.here hx rfl (hb hby at_166) rfl (l' := #[.val (.long x0), .second, .val (.long y0), .second, .val (.long z0), .second, .val (.int k0), .val (.int (0 : Int32)), .val (.long qa), .second, .val (.long qb), .second, .val (.long qc), .second, .val (.ref b1), .val (.ref b4), .val (.long (-1 : Int64)), .second, .val (.long (-1 : Int64)), .second]) rfl kK) ?_
    show OGo p e below _ (T36.setTop (mkF m 168 #[.val (.long x0), .second, .val (.long y0), .second, .val (.long z0), .second, .val (.int k0), .val (.int (0 : Int32)), .val (.long qa), .second, .val (.long qb), .second, .val (.long qc), .second, .val (.ref b1), .val (.ref b4), .val (.long (-1 : Int64)), .second, .val (.long (-1 : Int64)), .second] []))
    refine OGo.step (fun uK kK => XS.aload X36.here hx rfl (hb hby at_168) rfl rfl kK) ?_
    show OGo p e below _ (T36.setTop (mkF m 170 #[.val (.long x0), .second, .val (.long y0), .second, .val (.long z0), .second, .val (.int k0), .val (.int (0 : Int32)), .val (.long qa), .second, .val (.long qb), .second, .val (.long qc), .second, .val (.ref b1), .val (.ref b4), .val (.long (-1 : Int64)), .second, .val (.long (-1 : Int64)), .second] [(.ref b4)]))
    obtain ⟨cq53, kq53, q53a, q53b, q53c⟩ := isOf hZ rfl A4_37
    obtain ⟨_, _, ⟨T53, Lq53, kq_53, nq_53⟩, -, X53, ⟨Lc53, hQ53, lq53, yq53, zq53⟩, st53⟩ := X36.virtualBack hx (y := (⟨"com/example/graph_of_conflicts/graphofconflicts/engine/Transaction", "getSnapshot", "()J"⟩ : MethodName)) (z := (⟨"com/example/graph_of_conflicts/graphofconflicts/engine/Transaction", "getSnapshot", "()J"⟩ : MethodName)) hown (mvT hZ (hw _ (List.mem_of_getElem? (i := 198) rfl))) (mvT hZ (hw _ (List.mem_of_getElem? (i := 199) rfl))) (notFace_of_selects (args := #[]) (mvT hZ (hw _ (List.mem_of_getElem? (i := 201) rfl)))) (mvT hZ (hw _ (List.mem_of_getElem? (i := 201) rfl))) (mvT hZ (hw _ (List.mem_of_getElem? (i := 200) rfl))) (by decide) (backOf (W := 0) (rmgs l Z a0 hw [] b4 (-1 : Int64) T36.heap n0 ZS36 Fq36) hZ (hw _ (List.mem_of_getElem? (i := 202) rfl)) (hw _ (List.mem_of_getElem? (i := 4) rfl)) (by decide) (by decide)) q53a q53c (g := (mkF m 170 #[.val (.long x0), .second, .val (.long y0), .second, .val (.long z0), .second, .val (.int k0), .val (.int (0 : Int32)), .val (.long qa), .second, .val (.long qb), .second, .val (.long qc), .second, .val (.ref b1), .val (.ref b4), .val (.long (-1 : Int64)), .second, .val (.long (-1 : Int64)), .second] [(.ref b4)])) rfl (by rw [hml]; rfl) (Steps.refl _) (argsL := []) (rest := []) (lenOf pd0_3 rfl) rfl (by show 2 * 0 + _ ≤ _; exact Nat.le_of_eq rfl) (hb hby at_170) (fun _ _ => ⟨rfl, rfl, (by decide : 11 + 0 ≤ _), (by decide : 72 + 0 ≤ _)⟩)
    dsimp only [Pt.U, Pt.locs, Pt.cells, Pt.slots] at X53 lq53 yq53 zq53 st53 hQ53
    subst lq53 yq53 zq53
    obtain ⟨rfl, Nq53, e53⟩ := hQ53
    have N53 := Fr.app N36 Nq53
    refine OGo.steps st53 ?_
    show OGo p e below _ (T53.setTop (mkF m 173 #[.val (.long x0), .second, .val (.long y0), .second, .val (.long z0), .second, .val (.int k0), .val (.int (0 : Int32)), .val (.long qa), .second, .val (.long qb), .second, .val (.long qc), .second, .val (.ref b1), .val (.ref b4), .val (.long (-1 : Int64)), .second, .val (.long (-1 : Int64)), .second] [(.long (-1 : Int64))]))
    refine OGo.step (fun uK kK => XS.lload X53.here hx rfl (hb hby at_173) rfl kK) ?_
    show OGo p e below _ (T53.setTop (mkF m 175 #[.val (.long x0), .second, .val (.long y0), .second, .val (.long z0), .second, .val (.int k0), .val (.int (0 : Int32)), .val (.long qa), .second, .val (.long qb), .second, .val (.long qc), .second, .val (.ref b1), .val (.ref b4), .val (.long (-1 : Int64)), .second, .val (.long (-1 : Int64)), .second] [(.long (-1 : Int64)), (.long (-1 : Int64))]))
    refine OGo.step (fun uK kK => XS.lcmp X53.here hx rfl (hb hby at_175) rfl kK) ?_
    show OGo p e below _ (T53.setTop (mkF m 176 #[.val (.long x0), .second, .val (.long y0), .second, .val (.long z0), .second, .val (.int k0), .val (.int (0 : Int32)), .val (.long qa), .second, .val (.long qb), .second, .val (.long qc), .second, .val (.ref b1), .val (.ref b4), .val (.long (-1 : Int64)), .second, .val (.long (-1 : Int64)), .second] [(.int (lcmpW (-1 : Int64) (-1 : Int64)))]))
    have hc176 : (-1 : Int64) = (-1 : Int64) := rfl
    refine OGo.step (fun uK kK => XS.ifNo X53.here hx rfl (hb hby at_176) rfl ((if0 _ _).trans (teq ((lw_eq _ _).mpr hc176)).2) kK) ?_
    show OGo p e below _ (T53.setTop (mkF m 179 #[.val (.long x0), .second, .val (.long y0), .second, .val (.long z0), .second, .val (.int k0), .val (.int (0 : Int32)), .val (.long qa), .second, .val (.long qb), .second, .val (.long qc), .second, .val (.ref b1), .val (.ref b4), .val (.long (-1 : Int64)), .second, .val (.long (-1 : Int64)), .second] []))
    refine OGo.step (fun uK kK => XS.aload X53.here hx rfl (hb hby at_179) rfl rfl kK) ?_
    show OGo p e below _ (T53.setTop (mkF m 181 #[.val (.long x0), .second, .val (.long y0), .second, .val (.long z0), .second, .val (.int k0), .val (.int (0 : Int32)), .val (.long qa), .second, .val (.long qb), .second, .val (.long qc), .second, .val (.ref b1), .val (.ref b4), .val (.long (-1 : Int64)), .second, .val (.long (-1 : Int64)), .second] [(.ref b4)]))
    obtain ⟨cq54, kq54, q54a, q54b, q54c⟩ := isOf hZ e53 A4_37
    obtain ⟨_, _, ⟨T54, Lq54, kq_54, nq_54⟩, -, X54, ⟨Lc54, hQ54, lq54, yq54, zq54⟩, st54⟩ := X53.virtualBack hx (y := (⟨"com/example/graph_of_conflicts/graphofconflicts/engine/Transaction", "getFirstSnapshot", "()J"⟩ : MethodName)) (z := (⟨"com/example/graph_of_conflicts/graphofconflicts/engine/Transaction", "getFirstSnapshot", "()J"⟩ : MethodName)) hown (mvT hZ (hw _ (List.mem_of_getElem? (i := 203) rfl))) (mvT hZ (hw _ (List.mem_of_getElem? (i := 204) rfl))) (notFace_of_selects (args := #[]) (mvT hZ (hw _ (List.mem_of_getElem? (i := 206) rfl)))) (mvT hZ (hw _ (List.mem_of_getElem? (i := 206) rfl))) (mvT hZ (hw _ (List.mem_of_getElem? (i := 205) rfl))) (by decide) (backOf (W := 0) (rmgf l Z a0 hw [] b4 (-1 : Int64) T36.heap n0 ZS36 Fs36) hZ (hw _ (List.mem_of_getElem? (i := 207) rfl)) (hw _ (List.mem_of_getElem? (i := 4) rfl)) (by decide) (by decide)) q54a q54c (g := (mkF m 181 #[.val (.long x0), .second, .val (.long y0), .second, .val (.long z0), .second, .val (.int k0), .val (.int (0 : Int32)), .val (.long qa), .second, .val (.long qb), .second, .val (.long qc), .second, .val (.ref b1), .val (.ref b4), .val (.long (-1 : Int64)), .second, .val (.long (-1 : Int64)), .second] [(.ref b4)])) rfl (by rw [hml]; rfl) (Steps.refl _) (argsL := []) (rest := []) (lenOf pd0_3 rfl) rfl (by show 2 * 0 + _ ≤ _; exact Nat.le_of_eq rfl) (hb hby at_181) (fun _ _ => ⟨rfl, e53, (by decide : 11 + 0 ≤ _), (by decide : 72 + 0 ≤ _)⟩)
    dsimp only [Pt.U, Pt.locs, Pt.cells, Pt.slots] at X54 lq54 yq54 zq54 st54 hQ54
    subst lq54 yq54 zq54
    obtain ⟨rfl, Nq54, e54⟩ := hQ54
    have N54 := Fr.app N53 Nq54
    refine OGo.steps st54 ?_
    show OGo p e below _ (T54.setTop (mkF m 184 #[.val (.long x0), .second, .val (.long y0), .second, .val (.long z0), .second, .val (.int k0), .val (.int (0 : Int32)), .val (.long qa), .second, .val (.long qb), .second, .val (.long qc), .second, .val (.ref b1), .val (.ref b4), .val (.long (-1 : Int64)), .second, .val (.long (-1 : Int64)), .second] [(.long (-1 : Int64))]))
    refine OGo.step (fun uK kK => XS.lload X54.here hx rfl (hb hby at_184) rfl kK) ?_
    show OGo p e below _ (T54.setTop (mkF m 186 #[.val (.long x0), .second, .val (.long y0), .second, .val (.long z0), .second, .val (.int k0), .val (.int (0 : Int32)), .val (.long qa), .second, .val (.long qb), .second, .val (.long qc), .second, .val (.ref b1), .val (.ref b4), .val (.long (-1 : Int64)), .second, .val (.long (-1 : Int64)), .second] [(.long (-1 : Int64)), (.long (-1 : Int64))]))
    refine OGo.step (fun uK kK => XS.lcmp X54.here hx rfl (hb hby at_186) rfl kK) ?_
    show OGo p e below _ (T54.setTop (mkF m 187 #[.val (.long x0), .second, .val (.long y0), .second, .val (.long z0), .second, .val (.int k0), .val (.int (0 : Int32)), .val (.long qa), .second, .val (.long qb), .second, .val (.long qc), .second, .val (.ref b1), .val (.ref b4), .val (.long (-1 : Int64)), .second, .val (.long (-1 : Int64)), .second] [(.int (lcmpW (-1 : Int64) (-1 : Int64)))]))
    have hc187 : (-1 : Int64) = (-1 : Int64) := rfl
    refine OGo.step (fun uK kK => XS.ifNo X54.here hx rfl (hb hby at_187) rfl ((if0 _ _).trans (teq ((lw_eq _ _).mpr hc187)).2) kK) ?_
    show OGo p e below _ (T54.setTop (mkF m 190 #[.val (.long x0), .second, .val (.long y0), .second, .val (.long z0), .second, .val (.int k0), .val (.int (0 : Int32)), .val (.long qa), .second, .val (.long qb), .second, .val (.long qc), .second, .val (.ref b1), .val (.ref b4), .val (.long (-1 : Int64)), .second, .val (.long (-1 : Int64)), .second] []))
    refine OGo.step (fun uK kK => XS.aload X54.here hx rfl (hb hby at_190) rfl rfl kK) ?_
    show OGo p e below _ (T54.setTop (mkF m 192 #[.val (.long x0), .second, .val (.long y0), .second, .val (.long z0), .second, .val (.int k0), .val (.int (0 : Int32)), .val (.long qa), .second, .val (.long qb), .second, .val (.long qc), .second, .val (.ref b1), .val (.ref b4), .val (.long (-1 : Int64)), .second, .val (.long (-1 : Int64)), .second] [(.ref b4)]))
    obtain ⟨cq55, kq55, q55a, q55b, q55c⟩ := isOf hZ e54 A4_37
    obtain ⟨_, _, ⟨T55, Lq55, kq_55, nq_55⟩, -, X55, ⟨Lc55, hQ55, lq55, yq55, zq55⟩, st55⟩ := X54.virtualBack hx (y := (⟨"com/example/graph_of_conflicts/graphofconflicts/engine/Transaction", "hasSnapshot", "()Z"⟩ : MethodName)) (z := (⟨"com/example/graph_of_conflicts/graphofconflicts/engine/Transaction", "hasSnapshot", "()Z"⟩ : MethodName)) hown (mvT hZ (hw _ (List.mem_of_getElem? (i := 208) rfl))) (mvT hZ (hw _ (List.mem_of_getElem? (i := 209) rfl))) (notFace_of_selects (args := #[]) (mvT hZ (hw _ (List.mem_of_getElem? (i := 211) rfl)))) (mvT hZ (hw _ (List.mem_of_getElem? (i := 211) rfl))) (mvT hZ (hw _ (List.mem_of_getElem? (i := 210) rfl))) (by decide) (backOf (W := 0) (rmha l Z a0 hw [] b4 (-1 : Int64) T36.heap n0 ZS36 Fq36) hZ (hw _ (List.mem_of_getElem? (i := 212) rfl)) (hw _ (List.mem_of_getElem? (i := 4) rfl)) (by decide) (by decide)) q55a q55c (g := (mkF m 192 #[.val (.long x0), .second, .val (.long y0), .second, .val (.long z0), .second, .val (.int k0), .val (.int (0 : Int32)), .val (.long qa), .second, .val (.long qb), .second, .val (.long qc), .second, .val (.ref b1), .val (.ref b4), .val (.long (-1 : Int64)), .second, .val (.long (-1 : Int64)), .second] [(.ref b4)])) rfl (by rw [hml]; rfl) (Steps.refl _) (argsL := []) (rest := []) (lenOf pd0_4 rfl) rfl (by show 2 * 0 + _ ≤ _; exact Nat.le_of_eq rfl) (hb hby at_192) (fun _ _ => ⟨rfl, e54, (by decide : 11 + 0 ≤ _), (by decide : 72 + 0 ≤ _)⟩)
    dsimp only [Pt.U, Pt.locs, Pt.cells, Pt.slots] at X55 lq55 yq55 zq55 st55 hQ55
    subst lq55 yq55 zq55
    obtain ⟨rfl, Nq55, e55⟩ := hQ55
    have N55 := Fr.app N54 Nq55
    refine OGo.steps st55 ?_
    show OGo p e below _ (T55.setTop (mkF m 195 #[.val (.long x0), .second, .val (.long y0), .second, .val (.long z0), .second, .val (.int k0), .val (.int (0 : Int32)), .val (.long qa), .second, .val (.long qb), .second, .val (.long qc), .second, .val (.ref b1), .val (.ref b4), .val (.long (-1 : Int64)), .second, .val (.long (-1 : Int64)), .second] [(.int (nar .boolean (if (-1 : Int64) = (-1 : Int64) then (0 : Int32) else (1 : Int32))))]))
    refine OGo.step (fun uK kK => XS.iload X55.here hx rfl (hb hby at_195) rfl kK) ?_
    show OGo p e below _ (T55.setTop (mkF m 197 #[.val (.long x0), .second, .val (.long y0), .second, .val (.long z0), .second, .val (.int k0), .val (.int (0 : Int32)), .val (.long qa), .second, .val (.long qb), .second, .val (.long qc), .second, .val (.ref b1), .val (.ref b4), .val (.long (-1 : Int64)), .second, .val (.long (-1 : Int64)), .second] [(.int (0 : Int32)), (.int (nar .boolean (if (-1 : Int64) = (-1 : Int64) then (0 : Int32) else (1 : Int32))))]))
    have hc197 : (0 : Int32) = (0 : Int32) := by decide
    refine OGo.step (fun uK kK => XS.ifYes X55.here hx rfl (pc0 := 197) (pc' := 204) rfl (hb hby at_197) rfl ((if0 _ _).trans (teq hc197).1) (by decide) (by decide) kK) ?_
    show OGo p e below _ (T55.setTop (mkF m 204 #[.val (.long x0), .second, .val (.long y0), .second, .val (.long z0), .second, .val (.int k0), .val (.int (0 : Int32)), .val (.long qa), .second, .val (.long qb), .second, .val (.long qc), .second, .val (.ref b1), .val (.ref b4), .val (.long (-1 : Int64)), .second, .val (.long (-1 : Int64)), .second] [(.int (nar .boolean (if (-1 : Int64) = (-1 : Int64) then (0 : Int32) else (1 : Int32))))]))
    refine OGo.step (fun uK kK => XS.iconst X55.here hx rfl (hb hby at_204) kK) ?_
    show OGo p e below _ (T55.setTop (mkF m 205 #[.val (.long x0), .second, .val (.long y0), .second, .val (.long z0), .second, .val (.int k0), .val (.int (0 : Int32)), .val (.long qa), .second, .val (.long qb), .second, .val (.long qc), .second, .val (.ref b1), .val (.ref b4), .val (.long (-1 : Int64)), .second, .val (.long (-1 : Int64)), .second] [(.int (0 : Int32)), (.int (nar .boolean (if (-1 : Int64) = (-1 : Int64) then (0 : Int32) else (1 : Int32))))]))
    have hc205 : (nar .boolean (if (-1 : Int64) = (-1 : Int64) then (0 : Int32) else (1 : Int32))) = (0 : Int32) := by decide
    refine OGo.step (fun uK kK => XS.icmpNo X55.here hx rfl (hb hby at_205) rfl (teq hc205).2 kK) ?_
    show OGo p e below _ (T55.setTop (mkF m 208 #[.val (.long x0), .second, .val (.long y0), .second, .val (.long z0), .second, .val (.int k0), .val (.int (0 : Int32)), .val (.long qa), .second, .val (.long qb), .second, .val (.long qc), .second, .val (.ref b1), .val (.ref b4), .val (.long (-1 : Int64)), .second, .val (.long (-1 : Int64)), .second] []))
    refine OGo.step (fun uK kK => XS.iconst X55.here hx rfl (hb hby at_208) kK) ?_
    show OGo p e below _ (T55.setTop (mkF m 209 #[.val (.long x0), .second, .val (.long y0), .second, .val (.long z0), .second, .val (.int k0), .val (.int (0 : Int32)), .val (.long qa), .second, .val (.long qb), .second, .val (.long qc), .second, .val (.ref b1), .val (.ref b4), .val (.long (-1 : Int64)), .second, .val (.long (-1 : Int64)), .second] [(.int (1 : Int32))]))
    refine OGo.step (fun uK kK => XS.goto X55.here hx rfl (pc0 := 209) (pc' := 213) rfl (hb hby at_209) (by decide) (by decide) kK) ?_
    show OGo p e below _ (T55.setTop (mkF m 213 #[.val (.long x0), .second, .val (.long y0), .second, .val (.long z0), .second, .val (.int k0), .val (.int (0 : Int32)), .val (.long qa), .second, .val (.long qb), .second, .val (.long qc), .second, .val (.ref b1), .val (.ref b4), .val (.long (-1 : Int64)), .second, .val (.long (-1 : Int64)), .second] [(.int (1 : Int32))]))
    exact OGo.retN X55 hx Bd.notSynchronized (t := .boolean) Bd.returns (by simp) (hb hby at_213) (by decide) (by decide) (by show Q0 Z x0 y0 z0 k0 a_READ_COMMITTED a_REPEATABLE_READ a_SERIALIZABLE cs aE aA h0 n0 _ T55.heap _; rw [e55]; exact ⟨rfl, N55⟩)
  · skip
    subst h
    show OGo p e below _ (T36.setTop (mkF m 71 #[.val (.long x0), .second, .val (.long y0), .second, .val (.long z0), .second, .val (.int k0), .val (.int (1 : Int32)), .val (.long qa), .second, .val (.long qb), .second, .val (.long qc), .second, .val (.ref b1), .val (.ref b4), .unset, .unset, .unset, .unset] []))
    refine OGo.step (fun uK kK => XS.iload X36.here hx rfl (hb hby at_71) rfl kK) ?_
    show OGo p e below _ (T36.setTop (mkF m 73 #[.val (.long x0), .second, .val (.long y0), .second, .val (.long z0), .second, .val (.int k0), .val (.int (1 : Int32)), .val (.long qa), .second, .val (.long qb), .second, .val (.long qc), .second, .val (.ref b1), .val (.ref b4), .unset, .unset, .unset, .unset] [(.int (1 : Int32))]))
    refine OGo.step (fun uK kK => XS.iconst X36.here hx rfl (hb hby at_73) kK) ?_
    show OGo p e below _ (T36.setTop (mkF m 74 #[.val (.long x0), .second, .val (.long y0), .second, .val (.long z0), .second, .val (.int k0), .val (.int (1 : Int32)), .val (.long qa), .second, .val (.long qb), .second, .val (.long qc), .second, .val (.ref b1), .val (.ref b4), .unset, .unset, .unset, .unset] [(.int (1 : Int32)), (.int (1 : Int32))]))
    have hc74 : ¬ ((1 : Int32) < (1 : Int32)) := by decide
    refine OGo.step (fun uK kK => XS.icmpNo X36.here hx rfl (hb hby at_74) rfl (flt hc74).1 kK) ?_
    show OGo p e below _ (T36.setTop (mkF m 77 #[.val (.long x0), .second, .val (.long y0), .second, .val (.long z0), .second, .val (.int k0), .val (.int (1 : Int32)), .val (.long qa), .second, .val (.long qb), .second, .val (.long qc), .second, .val (.ref b1), .val (.ref b4), .unset, .unset, .unset, .unset] []))
    refine OGo.step (fun uK kK => XS.aload X36.here hx rfl (hb hby at_77) rfl rfl kK) ?_
    show OGo p e below _ (T36.setTop (mkF m 79 #[.val (.long x0), .second, .val (.long y0), .second, .val (.long z0), .second, .val (.int k0), .val (.int (1 : Int32)), .val (.long qa), .second, .val (.long qb), .second, .val (.long qc), .second, .val (.ref b1), .val (.ref b4), .unset, .unset, .unset, .unset] [(.ref b4)]))
    refine OGo.step (fun uK kK => XS.lload X36.here hx rfl (hb hby at_79) rfl kK) ?_
    show OGo p e below _ (T36.setTop (mkF m 81 #[.val (.long x0), .second, .val (.long y0), .second, .val (.long z0), .second, .val (.int k0), .val (.int (1 : Int32)), .val (.long qa), .second, .val (.long qb), .second, .val (.long qc), .second, .val (.ref b1), .val (.ref b4), .unset, .unset, .unset, .unset] [(.long qa), (.ref b4)]))
    obtain ⟨cq56, kq56, q56a, q56b, q56c⟩ := isOf hZ rfl A4_37
    obtain ⟨_, _, ⟨T56, Lq56, kq_56, nq_56⟩, -, X56, ⟨Lc56, hQ56, lq56, yq56, zq56⟩, st56⟩ := X36.virtualBack hx (y := (⟨"com/example/graph_of_conflicts/graphofconflicts/engine/Transaction", "takeSnapshot", "(J)V"⟩ : MethodName)) (z := (⟨"com/example/graph_of_conflicts/graphofconflicts/engine/Transaction", "takeSnapshot", "(J)V"⟩ : MethodName)) hown (mvT hZ (hw _ (List.mem_of_getElem? (i := 193) rfl))) (mvT hZ (hw _ (List.mem_of_getElem? (i := 194) rfl))) (notFace_of_selects (args := #[]) (mvT hZ (hw _ (List.mem_of_getElem? (i := 196) rfl)))) (mvT hZ (hw _ (List.mem_of_getElem? (i := 196) rfl))) (mvT hZ (hw _ (List.mem_of_getElem? (i := 195) rfl))) (by decide) (backOf (W := 0) (rmt1 l Z a0 hw [] b4 qa (-1 : Int64) T36.heap n0 ZS36 Fs36 Fq36 A4_37 gn_b4) hZ (hw _ (List.mem_of_getElem? (i := 197) rfl)) (hw _ (List.mem_of_getElem? (i := 4) rfl)) (by decide) (by decide)) q56a q56c (g := (mkF m 81 #[.val (.long x0), .second, .val (.long y0), .second, .val (.long z0), .second, .val (.int k0), .val (.int (1 : Int32)), .val (.long qa), .second, .val (.long qb), .second, .val (.long qc), .second, .val (.ref b1), .val (.ref b4), .unset, .unset, .unset, .unset] [(.long qa), (.ref b4)])) rfl (by rw [hml]; rfl) (Steps.refl _) (argsL := [(.long qa)]) (rest := []) (lenOf pd0_5 rfl) rfl (by show 2 * 0 + _ ≤ _; exact Nat.le_of_eq rfl) (hb hby at_81) (fun _ _ => ⟨rfl, rfl, (by decide : 11 + 0 ≤ _), (by decide : 72 + 0 ≤ _)⟩)
    dsimp only [Pt.U, Pt.locs, Pt.cells, Pt.slots] at X56 lq56 yq56 zq56 st56 hQ56
    subst lq56 yq56 zq56
    obtain ⟨rfl, Nq56, K56, Fs56, Fq56⟩ := hQ56
    have A4_57 := (A4_37.keep K56)
    have ZS56 : n0 ≤ T56.heap.size := Nat.le_trans ZS36 K56.1
    have KC56 : Keep h0 T56.heap [] := KC36.trans K56 (allS (Or.inr sz_b4) all0)
    have Od56 := Od36.keep K56 (allS gn_b4 all0)
    have N56 := Fr.app N36 Nq56
    refine OGo.steps st56 ?_
    show OGo p e below _ (T56.setTop (mkF m 84 #[.val (.long x0), .second, .val (.long y0), .second, .val (.long z0), .second, .val (.int k0), .val (.int (1 : Int32)), .val (.long qa), .second, .val (.long qb), .second, .val (.long qc), .second, .val (.ref b1), .val (.ref b4), .unset, .unset, .unset, .unset] []))
    refine OGo.step (fun uK kK => XS.iload X56.here hx rfl (hb hby at_84) rfl kK) ?_
    show OGo p e below _ (T56.setTop (mkF m 86 #[.val (.long x0), .second, .val (.long y0), .second, .val (.long z0), .second, .val (.int k0), .val (.int (1 : Int32)), .val (.long qa), .second, .val (.long qb), .second, .val (.long qc), .second, .val (.ref b1), .val (.ref b4), .unset, .unset, .unset, .unset] [(.int (1 : Int32))]))
    refine OGo.step (fun uK kK => XS.iconst X56.here hx rfl (hb hby at_86) kK) ?_
    show OGo p e below _ (T56.setTop (mkF m 87 #[.val (.long x0), .second, .val (.long y0), .second, .val (.long z0), .second, .val (.int k0), .val (.int (1 : Int32)), .val (.long qa), .second, .val (.long qb), .second, .val (.long qc), .second, .val (.ref b1), .val (.ref b4), .unset, .unset, .unset, .unset] [(.int (2 : Int32)), (.int (1 : Int32))]))
    have hc87 : (1 : Int32) < (2 : Int32) := by decide
    refine OGo.step (fun uK kK => XS.icmpYes X56.here hx rfl (pc0 := 87) (pc' := 97) rfl (hb hby at_87) rfl (tlt hc87).1 (by decide) (by decide) kK) ?_
    show OGo p e below _ (T56.setTop (mkF m 97 #[.val (.long x0), .second, .val (.long y0), .second, .val (.long z0), .second, .val (.int k0), .val (.int (1 : Int32)), .val (.long qa), .second, .val (.long qb), .second, .val (.long qc), .second, .val (.ref b1), .val (.ref b4), .unset, .unset, .unset, .unset] []))
    refine OGo.step (fun uK kK => XS.iload X56.here hx rfl (hb hby at_97) rfl kK) ?_
    show OGo p e below _ (T56.setTop (mkF m 99 #[.val (.long x0), .second, .val (.long y0), .second, .val (.long z0), .second, .val (.int k0), .val (.int (1 : Int32)), .val (.long qa), .second, .val (.long qb), .second, .val (.long qc), .second, .val (.ref b1), .val (.ref b4), .unset, .unset, .unset, .unset] [(.int (1 : Int32))]))
    refine OGo.step (fun uK kK => XS.iconst X56.here hx rfl (hb hby at_99) kK) ?_
    show OGo p e below _ (T56.setTop (mkF m 100 #[.val (.long x0), .second, .val (.long y0), .second, .val (.long z0), .second, .val (.int k0), .val (.int (1 : Int32)), .val (.long qa), .second, .val (.long qb), .second, .val (.long qc), .second, .val (.ref b1), .val (.ref b4), .unset, .unset, .unset, .unset] [(.int (3 : Int32)), (.int (1 : Int32))]))
    have hc100 : (1 : Int32) < (3 : Int32) := by decide
    refine OGo.step (fun uK kK => XS.icmpYes X56.here hx rfl (pc0 := 100) (pc' := 110) rfl (hb hby at_100) rfl (tlt hc100).1 (by decide) (by decide) kK) ?_
    show OGo p e below _ (T56.setTop (mkF m 110 #[.val (.long x0), .second, .val (.long y0), .second, .val (.long z0), .second, .val (.int k0), .val (.int (1 : Int32)), .val (.long qa), .second, .val (.long qb), .second, .val (.long qc), .second, .val (.ref b1), .val (.ref b4), .unset, .unset, .unset, .unset] []))
    refine OGo.step (fun uK kK => XS.iload X56.here hx rfl (hb hby at_110) rfl kK) ?_
    show OGo p e below _ (T56.setTop (mkF m 112 #[.val (.long x0), .second, .val (.long y0), .second, .val (.long z0), .second, .val (.int k0), .val (.int (1 : Int32)), .val (.long qa), .second, .val (.long qb), .second, .val (.long qc), .second, .val (.ref b1), .val (.ref b4), .unset, .unset, .unset, .unset] [(.int (1 : Int32))]))
    have hc112 : ¬ ((1 : Int32) = (0 : Int32)) := by decide
    refine OGo.step (fun uK kK => XS.ifYes X56.here hx rfl (pc0 := 112) (pc' := 123) rfl (hb hby at_112) rfl ((if0 _ _).trans (feq hc112).2) (by decide) (by decide) kK) ?_
    show OGo p e below _ (T56.setTop (mkF m 123 #[.val (.long x0), .second, .val (.long y0), .second, .val (.long z0), .second, .val (.int k0), .val (.int (1 : Int32)), .val (.long qa), .second, .val (.long qb), .second, .val (.long qc), .second, .val (.ref b1), .val (.ref b4), .unset, .unset, .unset, .unset] []))
    refine OGo.step (fun uK kK => XS.iload X56.here hx rfl (hb hby at_123) rfl kK) ?_
    show OGo p e below _ (T56.setTop (mkF m 125 #[.val (.long x0), .second, .val (.long y0), .second, .val (.long z0), .second, .val (.int k0), .val (.int (1 : Int32)), .val (.long qa), .second, .val (.long qb), .second, .val (.long qc), .second, .val (.ref b1), .val (.ref b4), .unset, .unset, .unset, .unset] [(.int (1 : Int32))]))
    refine OGo.step (fun uK kK => XS.iconst X56.here hx rfl (hb hby at_125) kK) ?_
    show OGo p e below _ (T56.setTop (mkF m 126 #[.val (.long x0), .second, .val (.long y0), .second, .val (.long z0), .second, .val (.int k0), .val (.int (1 : Int32)), .val (.long qa), .second, .val (.long qb), .second, .val (.long qc), .second, .val (.ref b1), .val (.ref b4), .unset, .unset, .unset, .unset] [(.int (1 : Int32)), (.int (1 : Int32))]))
    have hc126 : (1 : Int32) = (1 : Int32) := by decide
    refine OGo.step (fun uK kK => XS.icmpNo X56.here hx rfl (hb hby at_126) rfl (teq hc126).2 kK) ?_
    show OGo p e below _ (T56.setTop (mkF m 129 #[.val (.long x0), .second, .val (.long y0), .second, .val (.long z0), .second, .val (.int k0), .val (.int (1 : Int32)), .val (.long qa), .second, .val (.long qb), .second, .val (.long qc), .second, .val (.ref b1), .val (.ref b4), .unset, .unset, .unset, .unset] []))
    refine OGo.step (fun uK kK => XS.lload X56.here hx rfl (hb hby at_129) rfl kK) ?_
    show OGo p e below _ (T56.setTop (mkF m 131 #[.val (.long x0), .second, .val (.long y0), .second, .val (.long z0), .second, .val (.int k0), .val (.int (1 : Int32)), .val (.long qa), .second, .val (.long qb), .second, .val (.long qc), .second, .val (.ref b1), .val (.ref b4), .unset, .unset, .unset, .unset] [(.long qa)]))
    refine OGo.step (fun uK kK => XS.lstore X56.here hx rfl (hb hby at_131) rfl (l' := #[.val (.long x0), .second, .val (.long y0), .second, .val (.long z0), .second, .val (.int k0), .val (.int (1 : Int32)), .val (.long qa), .second, .val (.long qb), .second, .val (.long qc), .second, .val (.ref b1), .val (.ref b4), .val (.long qa), .second, .unset, .unset]) rfl kK) ?_
    show OGo p e below _ (T56.setTop (mkF m 133 #[.val (.long x0), .second, .val (.long y0), .second, .val (.long z0), .second, .val (.int k0), .val (.int (1 : Int32)), .val (.long qa), .second, .val (.long qb), .second, .val (.long qc), .second, .val (.ref b1), .val (.ref b4), .val (.long qa), .second, .unset, .unset] []))
    refine OGo.step (fun uK kK => XS.goto X56.here hx rfl (pc0 := 133) (pc' := 153) rfl (hb hby at_133) (by decide) (by decide) kK) ?_
    show OGo p e below _ (T56.setTop (mkF m 153 #[.val (.long x0), .second, .val (.long y0), .second, .val (.long z0), .second, .val (.int k0), .val (.int (1 : Int32)), .val (.long qa), .second, .val (.long qb), .second, .val (.long qc), .second, .val (.ref b1), .val (.ref b4), .val (.long qa), .second, .unset, .unset] []))
    refine OGo.step (fun uK kK => XS.iload X56.here hx rfl (hb hby at_153) rfl kK) ?_
    show OGo p e below _ (T56.setTop (mkF m 155 #[.val (.long x0), .second, .val (.long y0), .second, .val (.long z0), .second, .val (.int k0), .val (.int (1 : Int32)), .val (.long qa), .second, .val (.long qb), .second, .val (.long qc), .second, .val (.ref b1), .val (.ref b4), .val (.long qa), .second, .unset, .unset] [(.int (1 : Int32))]))
    have hc155 : ¬ ((1 : Int32) = (0 : Int32)) := by decide
    refine OGo.step (fun uK kK => XS.ifYes X56.here hx rfl (pc0 := 155) (pc' := 164) rfl (hb hby at_155) rfl ((if0 _ _).trans (feq hc155).2) (by decide) (by decide) kK) ?_
    show OGo p e below _ (T56.setTop (mkF m 164 #[.val (.long x0), .second, .val (.long y0), .second, .val (.long z0), .second, .val (.int k0), .val (.int (1 : Int32)), .val (.long qa), .second, .val (.long qb), .second, .val (.long qc), .second, .val (.ref b1), .val (.ref b4), .val (.long qa), .second, .unset, .unset] []))
    refine OGo.step (fun uK kK => XS.lload X56.here hx rfl (hb hby at_164) rfl kK) ?_
    show OGo p e below _ (T56.setTop (mkF m 166 #[.val (.long x0), .second, .val (.long y0), .second, .val (.long z0), .second, .val (.int k0), .val (.int (1 : Int32)), .val (.long qa), .second, .val (.long qb), .second, .val (.long qc), .second, .val (.ref b1), .val (.ref b4), .val (.long qa), .second, .unset, .unset] [(.long qa)]))
    refine OGo.step (fun uK kK => XS.lstore X56.here hx rfl (hb hby at_166) rfl (l' := #[.val (.long x0), .second, .val (.long y0), .second, .val (.long z0), .second, .val (.int k0), .val (.int (1 : Int32)), .val (.long qa), .second, .val (.long qb), .second, .val (.long qc), .second, .val (.ref b1), .val (.ref b4), .val (.long qa), .second, .val (.long qa), .second]) rfl kK) ?_
    show OGo p e below _ (T56.setTop (mkF m 168 #[.val (.long x0), .second, .val (.long y0), .second, .val (.long z0), .second, .val (.int k0), .val (.int (1 : Int32)), .val (.long qa), .second, .val (.long qb), .second, .val (.long qc), .second, .val (.ref b1), .val (.ref b4), .val (.long qa), .second, .val (.long qa), .second] []))
    refine OGo.step (fun uK kK => XS.aload X56.here hx rfl (hb hby at_168) rfl rfl kK) ?_
    show OGo p e below _ (T56.setTop (mkF m 170 #[.val (.long x0), .second, .val (.long y0), .second, .val (.long z0), .second, .val (.int k0), .val (.int (1 : Int32)), .val (.long qa), .second, .val (.long qb), .second, .val (.long qc), .second, .val (.ref b1), .val (.ref b4), .val (.long qa), .second, .val (.long qa), .second] [(.ref b4)]))
    obtain ⟨cq60, kq60, q60a, q60b, q60c⟩ := isOf hZ rfl A4_57
    obtain ⟨_, _, ⟨T60, Lq60, kq_60, nq_60⟩, -, X60, ⟨Lc60, hQ60, lq60, yq60, zq60⟩, st60⟩ := X56.virtualBack hx (y := (⟨"com/example/graph_of_conflicts/graphofconflicts/engine/Transaction", "getSnapshot", "()J"⟩ : MethodName)) (z := (⟨"com/example/graph_of_conflicts/graphofconflicts/engine/Transaction", "getSnapshot", "()J"⟩ : MethodName)) hown (mvT hZ (hw _ (List.mem_of_getElem? (i := 198) rfl))) (mvT hZ (hw _ (List.mem_of_getElem? (i := 199) rfl))) (notFace_of_selects (args := #[]) (mvT hZ (hw _ (List.mem_of_getElem? (i := 201) rfl)))) (mvT hZ (hw _ (List.mem_of_getElem? (i := 201) rfl))) (mvT hZ (hw _ (List.mem_of_getElem? (i := 200) rfl))) (by decide) (backOf (W := 0) (rmgs l Z a0 hw [] b4 qa T56.heap n0 ZS56 Fq56) hZ (hw _ (List.mem_of_getElem? (i := 202) rfl)) (hw _ (List.mem_of_getElem? (i := 4) rfl)) (by decide) (by decide)) q60a q60c (g := (mkF m 170 #[.val (.long x0), .second, .val (.long y0), .second, .val (.long z0), .second, .val (.int k0), .val (.int (1 : Int32)), .val (.long qa), .second, .val (.long qb), .second, .val (.long qc), .second, .val (.ref b1), .val (.ref b4), .val (.long qa), .second, .val (.long qa), .second] [(.ref b4)])) rfl (by rw [hml]; rfl) (Steps.refl _) (argsL := []) (rest := []) (lenOf pd0_3 rfl) rfl (by show 2 * 0 + _ ≤ _; exact Nat.le_of_eq rfl) (hb hby at_170) (fun _ _ => ⟨rfl, rfl, (by decide : 11 + 0 ≤ _), (by decide : 72 + 0 ≤ _)⟩)
    dsimp only [Pt.U, Pt.locs, Pt.cells, Pt.slots] at X60 lq60 yq60 zq60 st60 hQ60
    subst lq60 yq60 zq60
    obtain ⟨rfl, Nq60, e60⟩ := hQ60
    have N60 := Fr.app N56 Nq60
    refine OGo.steps st60 ?_
    show OGo p e below _ (T60.setTop (mkF m 173 #[.val (.long x0), .second, .val (.long y0), .second, .val (.long z0), .second, .val (.int k0), .val (.int (1 : Int32)), .val (.long qa), .second, .val (.long qb), .second, .val (.long qc), .second, .val (.ref b1), .val (.ref b4), .val (.long qa), .second, .val (.long qa), .second] [(.long qa)]))
    refine OGo.step (fun uK kK => XS.lload X60.here hx rfl (hb hby at_173) rfl kK) ?_
    show OGo p e below _ (T60.setTop (mkF m 175 #[.val (.long x0), .second, .val (.long y0), .second, .val (.long z0), .second, .val (.int k0), .val (.int (1 : Int32)), .val (.long qa), .second, .val (.long qb), .second, .val (.long qc), .second, .val (.ref b1), .val (.ref b4), .val (.long qa), .second, .val (.long qa), .second] [(.long qa), (.long qa)]))
    refine OGo.step (fun uK kK => XS.lcmp X60.here hx rfl (hb hby at_175) rfl kK) ?_
    show OGo p e below _ (T60.setTop (mkF m 176 #[.val (.long x0), .second, .val (.long y0), .second, .val (.long z0), .second, .val (.int k0), .val (.int (1 : Int32)), .val (.long qa), .second, .val (.long qb), .second, .val (.long qc), .second, .val (.ref b1), .val (.ref b4), .val (.long qa), .second, .val (.long qa), .second] [(.int (lcmpW qa qa))]))
    have hc176 : qa = qa := rfl
    refine OGo.step (fun uK kK => XS.ifNo X60.here hx rfl (hb hby at_176) rfl ((if0 _ _).trans (teq ((lw_eq _ _).mpr hc176)).2) kK) ?_
    show OGo p e below _ (T60.setTop (mkF m 179 #[.val (.long x0), .second, .val (.long y0), .second, .val (.long z0), .second, .val (.int k0), .val (.int (1 : Int32)), .val (.long qa), .second, .val (.long qb), .second, .val (.long qc), .second, .val (.ref b1), .val (.ref b4), .val (.long qa), .second, .val (.long qa), .second] []))
    refine OGo.step (fun uK kK => XS.aload X60.here hx rfl (hb hby at_179) rfl rfl kK) ?_
    show OGo p e below _ (T60.setTop (mkF m 181 #[.val (.long x0), .second, .val (.long y0), .second, .val (.long z0), .second, .val (.int k0), .val (.int (1 : Int32)), .val (.long qa), .second, .val (.long qb), .second, .val (.long qc), .second, .val (.ref b1), .val (.ref b4), .val (.long qa), .second, .val (.long qa), .second] [(.ref b4)]))
    obtain ⟨cq61, kq61, q61a, q61b, q61c⟩ := isOf hZ e60 A4_57
    obtain ⟨_, _, ⟨T61, Lq61, kq_61, nq_61⟩, -, X61, ⟨Lc61, hQ61, lq61, yq61, zq61⟩, st61⟩ := X60.virtualBack hx (y := (⟨"com/example/graph_of_conflicts/graphofconflicts/engine/Transaction", "getFirstSnapshot", "()J"⟩ : MethodName)) (z := (⟨"com/example/graph_of_conflicts/graphofconflicts/engine/Transaction", "getFirstSnapshot", "()J"⟩ : MethodName)) hown (mvT hZ (hw _ (List.mem_of_getElem? (i := 203) rfl))) (mvT hZ (hw _ (List.mem_of_getElem? (i := 204) rfl))) (notFace_of_selects (args := #[]) (mvT hZ (hw _ (List.mem_of_getElem? (i := 206) rfl)))) (mvT hZ (hw _ (List.mem_of_getElem? (i := 206) rfl))) (mvT hZ (hw _ (List.mem_of_getElem? (i := 205) rfl))) (by decide) (backOf (W := 0) (rmgf l Z a0 hw [] b4 qa T56.heap n0 ZS56 Fs56) hZ (hw _ (List.mem_of_getElem? (i := 207) rfl)) (hw _ (List.mem_of_getElem? (i := 4) rfl)) (by decide) (by decide)) q61a q61c (g := (mkF m 181 #[.val (.long x0), .second, .val (.long y0), .second, .val (.long z0), .second, .val (.int k0), .val (.int (1 : Int32)), .val (.long qa), .second, .val (.long qb), .second, .val (.long qc), .second, .val (.ref b1), .val (.ref b4), .val (.long qa), .second, .val (.long qa), .second] [(.ref b4)])) rfl (by rw [hml]; rfl) (Steps.refl _) (argsL := []) (rest := []) (lenOf pd0_3 rfl) rfl (by show 2 * 0 + _ ≤ _; exact Nat.le_of_eq rfl) (hb hby at_181) (fun _ _ => ⟨rfl, e60, (by decide : 11 + 0 ≤ _), (by decide : 72 + 0 ≤ _)⟩)
    dsimp only [Pt.U, Pt.locs, Pt.cells, Pt.slots] at X61 lq61 yq61 zq61 st61 hQ61
    subst lq61 yq61 zq61
    obtain ⟨rfl, Nq61, e61⟩ := hQ61
    have N61 := Fr.app N60 Nq61
    refine OGo.steps st61 ?_
    show OGo p e below _ (T61.setTop (mkF m 184 #[.val (.long x0), .second, .val (.long y0), .second, .val (.long z0), .second, .val (.int k0), .val (.int (1 : Int32)), .val (.long qa), .second, .val (.long qb), .second, .val (.long qc), .second, .val (.ref b1), .val (.ref b4), .val (.long qa), .second, .val (.long qa), .second] [(.long qa)]))
    refine OGo.step (fun uK kK => XS.lload X61.here hx rfl (hb hby at_184) rfl kK) ?_
    show OGo p e below _ (T61.setTop (mkF m 186 #[.val (.long x0), .second, .val (.long y0), .second, .val (.long z0), .second, .val (.int k0), .val (.int (1 : Int32)), .val (.long qa), .second, .val (.long qb), .second, .val (.long qc), .second, .val (.ref b1), .val (.ref b4), .val (.long qa), .second, .val (.long qa), .second] [(.long qa), (.long qa)]))
    refine OGo.step (fun uK kK => XS.lcmp X61.here hx rfl (hb hby at_186) rfl kK) ?_
    show OGo p e below _ (T61.setTop (mkF m 187 #[.val (.long x0), .second, .val (.long y0), .second, .val (.long z0), .second, .val (.int k0), .val (.int (1 : Int32)), .val (.long qa), .second, .val (.long qb), .second, .val (.long qc), .second, .val (.ref b1), .val (.ref b4), .val (.long qa), .second, .val (.long qa), .second] [(.int (lcmpW qa qa))]))
    have hc187 : qa = qa := rfl
    refine OGo.step (fun uK kK => XS.ifNo X61.here hx rfl (hb hby at_187) rfl ((if0 _ _).trans (teq ((lw_eq _ _).mpr hc187)).2) kK) ?_
    show OGo p e below _ (T61.setTop (mkF m 190 #[.val (.long x0), .second, .val (.long y0), .second, .val (.long z0), .second, .val (.int k0), .val (.int (1 : Int32)), .val (.long qa), .second, .val (.long qb), .second, .val (.long qc), .second, .val (.ref b1), .val (.ref b4), .val (.long qa), .second, .val (.long qa), .second] []))
    refine OGo.step (fun uK kK => XS.aload X61.here hx rfl (hb hby at_190) rfl rfl kK) ?_
    show OGo p e below _ (T61.setTop (mkF m 192 #[.val (.long x0), .second, .val (.long y0), .second, .val (.long z0), .second, .val (.int k0), .val (.int (1 : Int32)), .val (.long qa), .second, .val (.long qb), .second, .val (.long qc), .second, .val (.ref b1), .val (.ref b4), .val (.long qa), .second, .val (.long qa), .second] [(.ref b4)]))
    obtain ⟨cq62, kq62, q62a, q62b, q62c⟩ := isOf hZ e61 A4_57
    obtain ⟨_, _, ⟨T62, Lq62, kq_62, nq_62⟩, -, X62, ⟨Lc62, hQ62, lq62, yq62, zq62⟩, st62⟩ := X61.virtualBack hx (y := (⟨"com/example/graph_of_conflicts/graphofconflicts/engine/Transaction", "hasSnapshot", "()Z"⟩ : MethodName)) (z := (⟨"com/example/graph_of_conflicts/graphofconflicts/engine/Transaction", "hasSnapshot", "()Z"⟩ : MethodName)) hown (mvT hZ (hw _ (List.mem_of_getElem? (i := 208) rfl))) (mvT hZ (hw _ (List.mem_of_getElem? (i := 209) rfl))) (notFace_of_selects (args := #[]) (mvT hZ (hw _ (List.mem_of_getElem? (i := 211) rfl)))) (mvT hZ (hw _ (List.mem_of_getElem? (i := 211) rfl))) (mvT hZ (hw _ (List.mem_of_getElem? (i := 210) rfl))) (by decide) (backOf (W := 0) (rmha l Z a0 hw [] b4 qa T56.heap n0 ZS56 Fq56) hZ (hw _ (List.mem_of_getElem? (i := 212) rfl)) (hw _ (List.mem_of_getElem? (i := 4) rfl)) (by decide) (by decide)) q62a q62c (g := (mkF m 192 #[.val (.long x0), .second, .val (.long y0), .second, .val (.long z0), .second, .val (.int k0), .val (.int (1 : Int32)), .val (.long qa), .second, .val (.long qb), .second, .val (.long qc), .second, .val (.ref b1), .val (.ref b4), .val (.long qa), .second, .val (.long qa), .second] [(.ref b4)])) rfl (by rw [hml]; rfl) (Steps.refl _) (argsL := []) (rest := []) (lenOf pd0_4 rfl) rfl (by show 2 * 0 + _ ≤ _; exact Nat.le_of_eq rfl) (hb hby at_192) (fun _ _ => ⟨rfl, e61, (by decide : 11 + 0 ≤ _), (by decide : 72 + 0 ≤ _)⟩)
    dsimp only [Pt.U, Pt.locs, Pt.cells, Pt.slots] at X62 lq62 yq62 zq62 st62 hQ62
    subst lq62 yq62 zq62
    obtain ⟨rfl, Nq62, e62⟩ := hQ62
    have N62 := Fr.app N61 Nq62
    refine OGo.steps st62 ?_
    show OGo p e below _ (T62.setTop (mkF m 195 #[.val (.long x0), .second, .val (.long y0), .second, .val (.long z0), .second, .val (.int k0), .val (.int (1 : Int32)), .val (.long qa), .second, .val (.long qb), .second, .val (.long qc), .second, .val (.ref b1), .val (.ref b4), .val (.long qa), .second, .val (.long qa), .second] [(.int (nar .boolean (if qa = (-1 : Int64) then (0 : Int32) else (1 : Int32))))]))
    refine OGo.step (fun uK kK => XS.iload X62.here hx rfl (hb hby at_195) rfl kK) ?_
    show OGo p e below _ (T62.setTop (mkF m 197 #[.val (.long x0), .second, .val (.long y0), .second, .val (.long z0), .second, .val (.int k0), .val (.int (1 : Int32)), .val (.long qa), .second, .val (.long qb), .second, .val (.long qc), .second, .val (.ref b1), .val (.ref b4), .val (.long qa), .second, .val (.long qa), .second] [(.int (1 : Int32)), (.int (nar .boolean (if qa = (-1 : Int64) then (0 : Int32) else (1 : Int32))))]))
    have hc197 : ¬ ((1 : Int32) = (0 : Int32)) := by decide
    refine OGo.step (fun uK kK => XS.ifNo X62.here hx rfl (hb hby at_197) rfl ((if0 _ _).trans (feq hc197).1) kK) ?_
    show OGo p e below _ (T62.setTop (mkF m 200 #[.val (.long x0), .second, .val (.long y0), .second, .val (.long z0), .second, .val (.int k0), .val (.int (1 : Int32)), .val (.long qa), .second, .val (.long qb), .second, .val (.long qc), .second, .val (.ref b1), .val (.ref b4), .val (.long qa), .second, .val (.long qa), .second] [(.int (nar .boolean (if qa = (-1 : Int64) then (0 : Int32) else (1 : Int32))))]))
    refine OGo.step (fun uK kK => XS.iconst X62.here hx rfl (hb hby at_200) kK) ?_
    show OGo p e below _ (T62.setTop (mkF m 201 #[.val (.long x0), .second, .val (.long y0), .second, .val (.long z0), .second, .val (.int k0), .val (.int (1 : Int32)), .val (.long qa), .second, .val (.long qb), .second, .val (.long qc), .second, .val (.ref b1), .val (.ref b4), .val (.long qa), .second, .val (.long qa), .second] [(.int (1 : Int32)), (.int (nar .boolean (if qa = (-1 : Int64) then (0 : Int32) else (1 : Int32))))]))
    refine OGo.step (fun uK kK => XS.goto X62.here hx rfl (pc0 := 201) (pc' := 205) rfl (hb hby at_201) (by decide) (by decide) kK) ?_
    show OGo p e below _ (T62.setTop (mkF m 205 #[.val (.long x0), .second, .val (.long y0), .second, .val (.long z0), .second, .val (.int k0), .val (.int (1 : Int32)), .val (.long qa), .second, .val (.long qb), .second, .val (.long qc), .second, .val (.ref b1), .val (.ref b4), .val (.long qa), .second, .val (.long qa), .second] [(.int (1 : Int32)), (.int (nar .boolean (if qa = (-1 : Int64) then (0 : Int32) else (1 : Int32))))]))
    have hc205 : (nar .boolean (if qa = (-1 : Int64) then (0 : Int32) else (1 : Int32))) = (1 : Int32) := by rw [if_neg hp_qa]; decide
    refine OGo.step (fun uK kK => XS.icmpNo X62.here hx rfl (hb hby at_205) rfl (teq hc205).2 kK) ?_
    show OGo p e below _ (T62.setTop (mkF m 208 #[.val (.long x0), .second, .val (.long y0), .second, .val (.long z0), .second, .val (.int k0), .val (.int (1 : Int32)), .val (.long qa), .second, .val (.long qb), .second, .val (.long qc), .second, .val (.ref b1), .val (.ref b4), .val (.long qa), .second, .val (.long qa), .second] []))
    refine OGo.step (fun uK kK => XS.iconst X62.here hx rfl (hb hby at_208) kK) ?_
    show OGo p e below _ (T62.setTop (mkF m 209 #[.val (.long x0), .second, .val (.long y0), .second, .val (.long z0), .second, .val (.int k0), .val (.int (1 : Int32)), .val (.long qa), .second, .val (.long qb), .second, .val (.long qc), .second, .val (.ref b1), .val (.ref b4), .val (.long qa), .second, .val (.long qa), .second] [(.int (1 : Int32))]))
    refine OGo.step (fun uK kK => XS.goto X62.here hx rfl (pc0 := 209) (pc' := 213) rfl (hb hby at_209) (by decide) (by decide) kK) ?_
    show OGo p e below _ (T62.setTop (mkF m 213 #[.val (.long x0), .second, .val (.long y0), .second, .val (.long z0), .second, .val (.int k0), .val (.int (1 : Int32)), .val (.long qa), .second, .val (.long qb), .second, .val (.long qc), .second, .val (.ref b1), .val (.ref b4), .val (.long qa), .second, .val (.long qa), .second] [(.int (1 : Int32))]))
    exact OGo.retN X62 hx Bd.notSynchronized (t := .boolean) Bd.returns (by simp) (hb hby at_213) (by decide) (by decide) (by show Q0 Z x0 y0 z0 k0 a_READ_COMMITTED a_REPEATABLE_READ a_SERIALIZABLE cs aE aA h0 n0 _ T62.heap _; rw [e62]; exact ⟨rfl, N62⟩)
  · skip
    subst h
    show OGo p e below _ (T36.setTop (mkF m 71 #[.val (.long x0), .second, .val (.long y0), .second, .val (.long z0), .second, .val (.int k0), .val (.int (2 : Int32)), .val (.long qa), .second, .val (.long qb), .second, .val (.long qc), .second, .val (.ref b1), .val (.ref b4), .unset, .unset, .unset, .unset] []))
    refine OGo.step (fun uK kK => XS.iload X36.here hx rfl (hb hby at_71) rfl kK) ?_
    show OGo p e below _ (T36.setTop (mkF m 73 #[.val (.long x0), .second, .val (.long y0), .second, .val (.long z0), .second, .val (.int k0), .val (.int (2 : Int32)), .val (.long qa), .second, .val (.long qb), .second, .val (.long qc), .second, .val (.ref b1), .val (.ref b4), .unset, .unset, .unset, .unset] [(.int (2 : Int32))]))
    refine OGo.step (fun uK kK => XS.iconst X36.here hx rfl (hb hby at_73) kK) ?_
    show OGo p e below _ (T36.setTop (mkF m 74 #[.val (.long x0), .second, .val (.long y0), .second, .val (.long z0), .second, .val (.int k0), .val (.int (2 : Int32)), .val (.long qa), .second, .val (.long qb), .second, .val (.long qc), .second, .val (.ref b1), .val (.ref b4), .unset, .unset, .unset, .unset] [(.int (1 : Int32)), (.int (2 : Int32))]))
    have hc74 : ¬ ((2 : Int32) < (1 : Int32)) := by decide
    refine OGo.step (fun uK kK => XS.icmpNo X36.here hx rfl (hb hby at_74) rfl (flt hc74).1 kK) ?_
    show OGo p e below _ (T36.setTop (mkF m 77 #[.val (.long x0), .second, .val (.long y0), .second, .val (.long z0), .second, .val (.int k0), .val (.int (2 : Int32)), .val (.long qa), .second, .val (.long qb), .second, .val (.long qc), .second, .val (.ref b1), .val (.ref b4), .unset, .unset, .unset, .unset] []))
    refine OGo.step (fun uK kK => XS.aload X36.here hx rfl (hb hby at_77) rfl rfl kK) ?_
    show OGo p e below _ (T36.setTop (mkF m 79 #[.val (.long x0), .second, .val (.long y0), .second, .val (.long z0), .second, .val (.int k0), .val (.int (2 : Int32)), .val (.long qa), .second, .val (.long qb), .second, .val (.long qc), .second, .val (.ref b1), .val (.ref b4), .unset, .unset, .unset, .unset] [(.ref b4)]))
    refine OGo.step (fun uK kK => XS.lload X36.here hx rfl (hb hby at_79) rfl kK) ?_
    show OGo p e below _ (T36.setTop (mkF m 81 #[.val (.long x0), .second, .val (.long y0), .second, .val (.long z0), .second, .val (.int k0), .val (.int (2 : Int32)), .val (.long qa), .second, .val (.long qb), .second, .val (.long qc), .second, .val (.ref b1), .val (.ref b4), .unset, .unset, .unset, .unset] [(.long qa), (.ref b4)]))
    obtain ⟨cq63, kq63, q63a, q63b, q63c⟩ := isOf hZ rfl A4_37
    obtain ⟨_, _, ⟨T63, Lq63, kq_63, nq_63⟩, -, X63, ⟨Lc63, hQ63, lq63, yq63, zq63⟩, st63⟩ := X36.virtualBack hx (y := (⟨"com/example/graph_of_conflicts/graphofconflicts/engine/Transaction", "takeSnapshot", "(J)V"⟩ : MethodName)) (z := (⟨"com/example/graph_of_conflicts/graphofconflicts/engine/Transaction", "takeSnapshot", "(J)V"⟩ : MethodName)) hown (mvT hZ (hw _ (List.mem_of_getElem? (i := 193) rfl))) (mvT hZ (hw _ (List.mem_of_getElem? (i := 194) rfl))) (notFace_of_selects (args := #[]) (mvT hZ (hw _ (List.mem_of_getElem? (i := 196) rfl)))) (mvT hZ (hw _ (List.mem_of_getElem? (i := 196) rfl))) (mvT hZ (hw _ (List.mem_of_getElem? (i := 195) rfl))) (by decide) (backOf (W := 0) (rmt1 l Z a0 hw [] b4 qa (-1 : Int64) T36.heap n0 ZS36 Fs36 Fq36 A4_37 gn_b4) hZ (hw _ (List.mem_of_getElem? (i := 197) rfl)) (hw _ (List.mem_of_getElem? (i := 4) rfl)) (by decide) (by decide)) q63a q63c (g := (mkF m 81 #[.val (.long x0), .second, .val (.long y0), .second, .val (.long z0), .second, .val (.int k0), .val (.int (2 : Int32)), .val (.long qa), .second, .val (.long qb), .second, .val (.long qc), .second, .val (.ref b1), .val (.ref b4), .unset, .unset, .unset, .unset] [(.long qa), (.ref b4)])) rfl (by rw [hml]; rfl) (Steps.refl _) (argsL := [(.long qa)]) (rest := []) (lenOf pd0_5 rfl) rfl (by show 2 * 0 + _ ≤ _; exact Nat.le_of_eq rfl) (hb hby at_81) (fun _ _ => ⟨rfl, rfl, (by decide : 11 + 0 ≤ _), (by decide : 72 + 0 ≤ _)⟩)
    dsimp only [Pt.U, Pt.locs, Pt.cells, Pt.slots] at X63 lq63 yq63 zq63 st63 hQ63
    subst lq63 yq63 zq63
    obtain ⟨rfl, Nq63, K63, Fs63, Fq63⟩ := hQ63
    have A4_64 := (A4_37.keep K63)
    have ZS63 : n0 ≤ T63.heap.size := Nat.le_trans ZS36 K63.1
    have KC63 : Keep h0 T63.heap [] := KC36.trans K63 (allS (Or.inr sz_b4) all0)
    have Od63 := Od36.keep K63 (allS gn_b4 all0)
    have N63 := Fr.app N36 Nq63
    refine OGo.steps st63 ?_
    show OGo p e below _ (T63.setTop (mkF m 84 #[.val (.long x0), .second, .val (.long y0), .second, .val (.long z0), .second, .val (.int k0), .val (.int (2 : Int32)), .val (.long qa), .second, .val (.long qb), .second, .val (.long qc), .second, .val (.ref b1), .val (.ref b4), .unset, .unset, .unset, .unset] []))
    refine OGo.step (fun uK kK => XS.iload X63.here hx rfl (hb hby at_84) rfl kK) ?_
    show OGo p e below _ (T63.setTop (mkF m 86 #[.val (.long x0), .second, .val (.long y0), .second, .val (.long z0), .second, .val (.int k0), .val (.int (2 : Int32)), .val (.long qa), .second, .val (.long qb), .second, .val (.long qc), .second, .val (.ref b1), .val (.ref b4), .unset, .unset, .unset, .unset] [(.int (2 : Int32))]))
    refine OGo.step (fun uK kK => XS.iconst X63.here hx rfl (hb hby at_86) kK) ?_
    show OGo p e below _ (T63.setTop (mkF m 87 #[.val (.long x0), .second, .val (.long y0), .second, .val (.long z0), .second, .val (.int k0), .val (.int (2 : Int32)), .val (.long qa), .second, .val (.long qb), .second, .val (.long qc), .second, .val (.ref b1), .val (.ref b4), .unset, .unset, .unset, .unset] [(.int (2 : Int32)), (.int (2 : Int32))]))
    have hc87 : ¬ ((2 : Int32) < (2 : Int32)) := by decide
    refine OGo.step (fun uK kK => XS.icmpNo X63.here hx rfl (hb hby at_87) rfl (flt hc87).1 kK) ?_
    show OGo p e below _ (T63.setTop (mkF m 90 #[.val (.long x0), .second, .val (.long y0), .second, .val (.long z0), .second, .val (.int k0), .val (.int (2 : Int32)), .val (.long qa), .second, .val (.long qb), .second, .val (.long qc), .second, .val (.ref b1), .val (.ref b4), .unset, .unset, .unset, .unset] []))
    refine OGo.step (fun uK kK => XS.aload X63.here hx rfl (hb hby at_90) rfl rfl kK) ?_
    show OGo p e below _ (T63.setTop (mkF m 92 #[.val (.long x0), .second, .val (.long y0), .second, .val (.long z0), .second, .val (.int k0), .val (.int (2 : Int32)), .val (.long qa), .second, .val (.long qb), .second, .val (.long qc), .second, .val (.ref b1), .val (.ref b4), .unset, .unset, .unset, .unset] [(.ref b4)]))
    refine OGo.step (fun uK kK => XS.lload X63.here hx rfl (hb hby at_92) rfl kK) ?_
    show OGo p e below _ (T63.setTop (mkF m 94 #[.val (.long x0), .second, .val (.long y0), .second, .val (.long z0), .second, .val (.int k0), .val (.int (2 : Int32)), .val (.long qa), .second, .val (.long qb), .second, .val (.long qc), .second, .val (.ref b1), .val (.ref b4), .unset, .unset, .unset, .unset] [(.long qb), (.ref b4)]))
    obtain ⟨cq67, kq67, q67a, q67b, q67c⟩ := isOf hZ rfl A4_64
    obtain ⟨_, _, ⟨T67, Lq67, kq_67, nq_67⟩, -, X67, ⟨Lc67, hQ67, lq67, yq67, zq67⟩, st67⟩ := X63.virtualBack hx (y := (⟨"com/example/graph_of_conflicts/graphofconflicts/engine/Transaction", "takeSnapshot", "(J)V"⟩ : MethodName)) (z := (⟨"com/example/graph_of_conflicts/graphofconflicts/engine/Transaction", "takeSnapshot", "(J)V"⟩ : MethodName)) hown (mvT hZ (hw _ (List.mem_of_getElem? (i := 193) rfl))) (mvT hZ (hw _ (List.mem_of_getElem? (i := 194) rfl))) (notFace_of_selects (args := #[]) (mvT hZ (hw _ (List.mem_of_getElem? (i := 196) rfl)))) (mvT hZ (hw _ (List.mem_of_getElem? (i := 196) rfl))) (mvT hZ (hw _ (List.mem_of_getElem? (i := 195) rfl))) (by decide) (backOf (W := 0) (rmt2 l Z a0 hw [] b4 qb qa qa T63.heap n0 ZS63 Fs63 Fq63 A4_64 gn_b4 hp_qa) hZ (hw _ (List.mem_of_getElem? (i := 197) rfl)) (hw _ (List.mem_of_getElem? (i := 4) rfl)) (by decide) (by decide)) q67a q67c (g := (mkF m 94 #[.val (.long x0), .second, .val (.long y0), .second, .val (.long z0), .second, .val (.int k0), .val (.int (2 : Int32)), .val (.long qa), .second, .val (.long qb), .second, .val (.long qc), .second, .val (.ref b1), .val (.ref b4), .unset, .unset, .unset, .unset] [(.long qb), (.ref b4)])) rfl (by rw [hml]; rfl) (Steps.refl _) (argsL := [(.long qb)]) (rest := []) (lenOf pd0_5 rfl) rfl (by show 2 * 0 + _ ≤ _; exact Nat.le_of_eq rfl) (hb hby at_94) (fun _ _ => ⟨rfl, rfl, (by decide : 11 + 0 ≤ _), (by decide : 72 + 0 ≤ _)⟩)
    dsimp only [Pt.U, Pt.locs, Pt.cells, Pt.slots] at X67 lq67 yq67 zq67 st67 hQ67
    subst lq67 yq67 zq67
    obtain ⟨rfl, Nq67, K67, Fs67, Fq67⟩ := hQ67
    have A4_68 := (A4_64.keep K67)
    have ZS67 : n0 ≤ T67.heap.size := Nat.le_trans ZS63 K67.1
    have KC67 : Keep h0 T67.heap [] := KC63.trans K67 (allS (Or.inr sz_b4) all0)
    have Od67 := Od63.keep K67 (allS gn_b4 all0)
    have N67 := Fr.app N63 Nq67
    refine OGo.steps st67 ?_
    show OGo p e below _ (T67.setTop (mkF m 97 #[.val (.long x0), .second, .val (.long y0), .second, .val (.long z0), .second, .val (.int k0), .val (.int (2 : Int32)), .val (.long qa), .second, .val (.long qb), .second, .val (.long qc), .second, .val (.ref b1), .val (.ref b4), .unset, .unset, .unset, .unset] []))
    refine OGo.step (fun uK kK => XS.iload X67.here hx rfl (hb hby at_97) rfl kK) ?_
    show OGo p e below _ (T67.setTop (mkF m 99 #[.val (.long x0), .second, .val (.long y0), .second, .val (.long z0), .second, .val (.int k0), .val (.int (2 : Int32)), .val (.long qa), .second, .val (.long qb), .second, .val (.long qc), .second, .val (.ref b1), .val (.ref b4), .unset, .unset, .unset, .unset] [(.int (2 : Int32))]))
    refine OGo.step (fun uK kK => XS.iconst X67.here hx rfl (hb hby at_99) kK) ?_
    show OGo p e below _ (T67.setTop (mkF m 100 #[.val (.long x0), .second, .val (.long y0), .second, .val (.long z0), .second, .val (.int k0), .val (.int (2 : Int32)), .val (.long qa), .second, .val (.long qb), .second, .val (.long qc), .second, .val (.ref b1), .val (.ref b4), .unset, .unset, .unset, .unset] [(.int (3 : Int32)), (.int (2 : Int32))]))
    have hc100 : (2 : Int32) < (3 : Int32) := by decide
    refine OGo.step (fun uK kK => XS.icmpYes X67.here hx rfl (pc0 := 100) (pc' := 110) rfl (hb hby at_100) rfl (tlt hc100).1 (by decide) (by decide) kK) ?_
    show OGo p e below _ (T67.setTop (mkF m 110 #[.val (.long x0), .second, .val (.long y0), .second, .val (.long z0), .second, .val (.int k0), .val (.int (2 : Int32)), .val (.long qa), .second, .val (.long qb), .second, .val (.long qc), .second, .val (.ref b1), .val (.ref b4), .unset, .unset, .unset, .unset] []))
    refine OGo.step (fun uK kK => XS.iload X67.here hx rfl (hb hby at_110) rfl kK) ?_
    show OGo p e below _ (T67.setTop (mkF m 112 #[.val (.long x0), .second, .val (.long y0), .second, .val (.long z0), .second, .val (.int k0), .val (.int (2 : Int32)), .val (.long qa), .second, .val (.long qb), .second, .val (.long qc), .second, .val (.ref b1), .val (.ref b4), .unset, .unset, .unset, .unset] [(.int (2 : Int32))]))
    have hc112 : ¬ ((2 : Int32) = (0 : Int32)) := by decide
    refine OGo.step (fun uK kK => XS.ifYes X67.here hx rfl (pc0 := 112) (pc' := 123) rfl (hb hby at_112) rfl ((if0 _ _).trans (feq hc112).2) (by decide) (by decide) kK) ?_
    show OGo p e below _ (T67.setTop (mkF m 123 #[.val (.long x0), .second, .val (.long y0), .second, .val (.long z0), .second, .val (.int k0), .val (.int (2 : Int32)), .val (.long qa), .second, .val (.long qb), .second, .val (.long qc), .second, .val (.ref b1), .val (.ref b4), .unset, .unset, .unset, .unset] []))
    refine OGo.step (fun uK kK => XS.iload X67.here hx rfl (hb hby at_123) rfl kK) ?_
    show OGo p e below _ (T67.setTop (mkF m 125 #[.val (.long x0), .second, .val (.long y0), .second, .val (.long z0), .second, .val (.int k0), .val (.int (2 : Int32)), .val (.long qa), .second, .val (.long qb), .second, .val (.long qc), .second, .val (.ref b1), .val (.ref b4), .unset, .unset, .unset, .unset] [(.int (2 : Int32))]))
    refine OGo.step (fun uK kK => XS.iconst X67.here hx rfl (hb hby at_125) kK) ?_
    show OGo p e below _ (T67.setTop (mkF m 126 #[.val (.long x0), .second, .val (.long y0), .second, .val (.long z0), .second, .val (.int k0), .val (.int (2 : Int32)), .val (.long qa), .second, .val (.long qb), .second, .val (.long qc), .second, .val (.ref b1), .val (.ref b4), .unset, .unset, .unset, .unset] [(.int (1 : Int32)), (.int (2 : Int32))]))
    have hc126 : ¬ ((2 : Int32) = (1 : Int32)) := by decide
    refine OGo.step (fun uK kK => XS.icmpYes X67.here hx rfl (pc0 := 126) (pc' := 136) rfl (hb hby at_126) rfl (feq hc126).2 (by decide) (by decide) kK) ?_
    show OGo p e below _ (T67.setTop (mkF m 136 #[.val (.long x0), .second, .val (.long y0), .second, .val (.long z0), .second, .val (.int k0), .val (.int (2 : Int32)), .val (.long qa), .second, .val (.long qb), .second, .val (.long qc), .second, .val (.ref b1), .val (.ref b4), .unset, .unset, .unset, .unset] []))
    refine OGo.step (fun uK kK => XS.iload X67.here hx rfl (hb hby at_136) rfl kK) ?_
    show OGo p e below _ (T67.setTop (mkF m 138 #[.val (.long x0), .second, .val (.long y0), .second, .val (.long z0), .second, .val (.int k0), .val (.int (2 : Int32)), .val (.long qa), .second, .val (.long qb), .second, .val (.long qc), .second, .val (.ref b1), .val (.ref b4), .unset, .unset, .unset, .unset] [(.int (2 : Int32))]))
    refine OGo.step (fun uK kK => XS.iconst X67.here hx rfl (hb hby at_138) kK) ?_
    show OGo p e below _ (T67.setTop (mkF m 139 #[.val (.long x0), .second, .val (.long y0), .second, .val (.long z0), .second, .val (.int k0), .val (.int (2 : Int32)), .val (.long qa), .second, .val (.long qb), .second, .val (.long qc), .second, .val (.ref b1), .val (.ref b4), .unset, .unset, .unset, .unset] [(.int (2 : Int32)), (.int (2 : Int32))]))
    have hc139 : (2 : Int32) = (2 : Int32) := by decide
    refine OGo.step (fun uK kK => XS.icmpNo X67.here hx rfl (hb hby at_139) rfl (teq hc139).2 kK) ?_
    show OGo p e below _ (T67.setTop (mkF m 142 #[.val (.long x0), .second, .val (.long y0), .second, .val (.long z0), .second, .val (.int k0), .val (.int (2 : Int32)), .val (.long qa), .second, .val (.long qb), .second, .val (.long qc), .second, .val (.ref b1), .val (.ref b4), .unset, .unset, .unset, .unset] []))
    refine OGo.step (fun uK kK => XS.lload X67.here hx rfl (hb hby at_142) rfl kK) ?_
    show OGo p e below _ (T67.setTop (mkF m 144 #[.val (.long x0), .second, .val (.long y0), .second, .val (.long z0), .second, .val (.int k0), .val (.int (2 : Int32)), .val (.long qa), .second, .val (.long qb), .second, .val (.long qc), .second, .val (.ref b1), .val (.ref b4), .unset, .unset, .unset, .unset] [(.long qb)]))
    refine OGo.step (fun uK kK => XS.lstore X67.here hx rfl (hb hby at_144) rfl (l' := #[.val (.long x0), .second, .val (.long y0), .second, .val (.long z0), .second, .val (.int k0), .val (.int (2 : Int32)), .val (.long qa), .second, .val (.long qb), .second, .val (.long qc), .second, .val (.ref b1), .val (.ref b4), .val (.long qb), .second, .unset, .unset]) rfl kK) ?_
    show OGo p e below _ (T67.setTop (mkF m 146 #[.val (.long x0), .second, .val (.long y0), .second, .val (.long z0), .second, .val (.int k0), .val (.int (2 : Int32)), .val (.long qa), .second, .val (.long qb), .second, .val (.long qc), .second, .val (.ref b1), .val (.ref b4), .val (.long qb), .second, .unset, .unset] []))
    refine OGo.step (fun uK kK => XS.goto X67.here hx rfl (pc0 := 146) (pc' := 153) rfl (hb hby at_146) (by decide) (by decide) kK) ?_
    show OGo p e below _ (T67.setTop (mkF m 153 #[.val (.long x0), .second, .val (.long y0), .second, .val (.long z0), .second, .val (.int k0), .val (.int (2 : Int32)), .val (.long qa), .second, .val (.long qb), .second, .val (.long qc), .second, .val (.ref b1), .val (.ref b4), .val (.long qb), .second, .unset, .unset] []))
    refine OGo.step (fun uK kK => XS.iload X67.here hx rfl (hb hby at_153) rfl kK) ?_
    show OGo p e below _ (T67.setTop (mkF m 155 #[.val (.long x0), .second, .val (.long y0), .second, .val (.long z0), .second, .val (.int k0), .val (.int (2 : Int32)), .val (.long qa), .second, .val (.long qb), .second, .val (.long qc), .second, .val (.ref b1), .val (.ref b4), .val (.long qb), .second, .unset, .unset] [(.int (2 : Int32))]))
    have hc155 : ¬ ((2 : Int32) = (0 : Int32)) := by decide
    refine OGo.step (fun uK kK => XS.ifYes X67.here hx rfl (pc0 := 155) (pc' := 164) rfl (hb hby at_155) rfl ((if0 _ _).trans (feq hc155).2) (by decide) (by decide) kK) ?_
    show OGo p e below _ (T67.setTop (mkF m 164 #[.val (.long x0), .second, .val (.long y0), .second, .val (.long z0), .second, .val (.int k0), .val (.int (2 : Int32)), .val (.long qa), .second, .val (.long qb), .second, .val (.long qc), .second, .val (.ref b1), .val (.ref b4), .val (.long qb), .second, .unset, .unset] []))
    refine OGo.step (fun uK kK => XS.lload X67.here hx rfl (hb hby at_164) rfl kK) ?_
    show OGo p e below _ (T67.setTop (mkF m 166 #[.val (.long x0), .second, .val (.long y0), .second, .val (.long z0), .second, .val (.int k0), .val (.int (2 : Int32)), .val (.long qa), .second, .val (.long qb), .second, .val (.long qc), .second, .val (.ref b1), .val (.ref b4), .val (.long qb), .second, .unset, .unset] [(.long qa)]))
    refine OGo.step (fun uK kK => XS.lstore X67.here hx rfl (hb hby at_166) rfl (l' := #[.val (.long x0), .second, .val (.long y0), .second, .val (.long z0), .second, .val (.int k0), .val (.int (2 : Int32)), .val (.long qa), .second, .val (.long qb), .second, .val (.long qc), .second, .val (.ref b1), .val (.ref b4), .val (.long qb), .second, .val (.long qa), .second]) rfl kK) ?_
    show OGo p e below _ (T67.setTop (mkF m 168 #[.val (.long x0), .second, .val (.long y0), .second, .val (.long z0), .second, .val (.int k0), .val (.int (2 : Int32)), .val (.long qa), .second, .val (.long qb), .second, .val (.long qc), .second, .val (.ref b1), .val (.ref b4), .val (.long qb), .second, .val (.long qa), .second] []))
    refine OGo.step (fun uK kK => XS.aload X67.here hx rfl (hb hby at_168) rfl rfl kK) ?_
    show OGo p e below _ (T67.setTop (mkF m 170 #[.val (.long x0), .second, .val (.long y0), .second, .val (.long z0), .second, .val (.int k0), .val (.int (2 : Int32)), .val (.long qa), .second, .val (.long qb), .second, .val (.long qc), .second, .val (.ref b1), .val (.ref b4), .val (.long qb), .second, .val (.long qa), .second] [(.ref b4)]))
    obtain ⟨cq71, kq71, q71a, q71b, q71c⟩ := isOf hZ rfl A4_68
    obtain ⟨_, _, ⟨T71, Lq71, kq_71, nq_71⟩, -, X71, ⟨Lc71, hQ71, lq71, yq71, zq71⟩, st71⟩ := X67.virtualBack hx (y := (⟨"com/example/graph_of_conflicts/graphofconflicts/engine/Transaction", "getSnapshot", "()J"⟩ : MethodName)) (z := (⟨"com/example/graph_of_conflicts/graphofconflicts/engine/Transaction", "getSnapshot", "()J"⟩ : MethodName)) hown (mvT hZ (hw _ (List.mem_of_getElem? (i := 198) rfl))) (mvT hZ (hw _ (List.mem_of_getElem? (i := 199) rfl))) (notFace_of_selects (args := #[]) (mvT hZ (hw _ (List.mem_of_getElem? (i := 201) rfl)))) (mvT hZ (hw _ (List.mem_of_getElem? (i := 201) rfl))) (mvT hZ (hw _ (List.mem_of_getElem? (i := 200) rfl))) (by decide) (backOf (W := 0) (rmgs l Z a0 hw [] b4 qb T67.heap n0 ZS67 Fq67) hZ (hw _ (List.mem_of_getElem? (i := 202) rfl)) (hw _ (List.mem_of_getElem? (i := 4) rfl)) (by decide) (by decide)) q71a q71c (g := (mkF m 170 #[.val (.long x0), .second, .val (.long y0), .second, .val (.long z0), .second, .val (.int k0), .val (.int (2 : Int32)), .val (.long qa), .second, .val (.long qb), .second, .val (.long qc), .second, .val (.ref b1), .val (.ref b4), .val (.long qb), .second, .val (.long qa), .second] [(.ref b4)])) rfl (by rw [hml]; rfl) (Steps.refl _) (argsL := []) (rest := []) (lenOf pd0_3 rfl) rfl (by show 2 * 0 + _ ≤ _; exact Nat.le_of_eq rfl) (hb hby at_170) (fun _ _ => ⟨rfl, rfl, (by decide : 11 + 0 ≤ _), (by decide : 72 + 0 ≤ _)⟩)
    dsimp only [Pt.U, Pt.locs, Pt.cells, Pt.slots] at X71 lq71 yq71 zq71 st71 hQ71
    subst lq71 yq71 zq71
    obtain ⟨rfl, Nq71, e71⟩ := hQ71
    have N71 := Fr.app N67 Nq71
    refine OGo.steps st71 ?_
    show OGo p e below _ (T71.setTop (mkF m 173 #[.val (.long x0), .second, .val (.long y0), .second, .val (.long z0), .second, .val (.int k0), .val (.int (2 : Int32)), .val (.long qa), .second, .val (.long qb), .second, .val (.long qc), .second, .val (.ref b1), .val (.ref b4), .val (.long qb), .second, .val (.long qa), .second] [(.long qb)]))
    refine OGo.step (fun uK kK => XS.lload X71.here hx rfl (hb hby at_173) rfl kK) ?_
    show OGo p e below _ (T71.setTop (mkF m 175 #[.val (.long x0), .second, .val (.long y0), .second, .val (.long z0), .second, .val (.int k0), .val (.int (2 : Int32)), .val (.long qa), .second, .val (.long qb), .second, .val (.long qc), .second, .val (.ref b1), .val (.ref b4), .val (.long qb), .second, .val (.long qa), .second] [(.long qb), (.long qb)]))
    refine OGo.step (fun uK kK => XS.lcmp X71.here hx rfl (hb hby at_175) rfl kK) ?_
    show OGo p e below _ (T71.setTop (mkF m 176 #[.val (.long x0), .second, .val (.long y0), .second, .val (.long z0), .second, .val (.int k0), .val (.int (2 : Int32)), .val (.long qa), .second, .val (.long qb), .second, .val (.long qc), .second, .val (.ref b1), .val (.ref b4), .val (.long qb), .second, .val (.long qa), .second] [(.int (lcmpW qb qb))]))
    have hc176 : qb = qb := rfl
    refine OGo.step (fun uK kK => XS.ifNo X71.here hx rfl (hb hby at_176) rfl ((if0 _ _).trans (teq ((lw_eq _ _).mpr hc176)).2) kK) ?_
    show OGo p e below _ (T71.setTop (mkF m 179 #[.val (.long x0), .second, .val (.long y0), .second, .val (.long z0), .second, .val (.int k0), .val (.int (2 : Int32)), .val (.long qa), .second, .val (.long qb), .second, .val (.long qc), .second, .val (.ref b1), .val (.ref b4), .val (.long qb), .second, .val (.long qa), .second] []))
    refine OGo.step (fun uK kK => XS.aload X71.here hx rfl (hb hby at_179) rfl rfl kK) ?_
    show OGo p e below _ (T71.setTop (mkF m 181 #[.val (.long x0), .second, .val (.long y0), .second, .val (.long z0), .second, .val (.int k0), .val (.int (2 : Int32)), .val (.long qa), .second, .val (.long qb), .second, .val (.long qc), .second, .val (.ref b1), .val (.ref b4), .val (.long qb), .second, .val (.long qa), .second] [(.ref b4)]))
    obtain ⟨cq72, kq72, q72a, q72b, q72c⟩ := isOf hZ e71 A4_68
    obtain ⟨_, _, ⟨T72, Lq72, kq_72, nq_72⟩, -, X72, ⟨Lc72, hQ72, lq72, yq72, zq72⟩, st72⟩ := X71.virtualBack hx (y := (⟨"com/example/graph_of_conflicts/graphofconflicts/engine/Transaction", "getFirstSnapshot", "()J"⟩ : MethodName)) (z := (⟨"com/example/graph_of_conflicts/graphofconflicts/engine/Transaction", "getFirstSnapshot", "()J"⟩ : MethodName)) hown (mvT hZ (hw _ (List.mem_of_getElem? (i := 203) rfl))) (mvT hZ (hw _ (List.mem_of_getElem? (i := 204) rfl))) (notFace_of_selects (args := #[]) (mvT hZ (hw _ (List.mem_of_getElem? (i := 206) rfl)))) (mvT hZ (hw _ (List.mem_of_getElem? (i := 206) rfl))) (mvT hZ (hw _ (List.mem_of_getElem? (i := 205) rfl))) (by decide) (backOf (W := 0) (rmgf l Z a0 hw [] b4 qa T67.heap n0 ZS67 Fs67) hZ (hw _ (List.mem_of_getElem? (i := 207) rfl)) (hw _ (List.mem_of_getElem? (i := 4) rfl)) (by decide) (by decide)) q72a q72c (g := (mkF m 181 #[.val (.long x0), .second, .val (.long y0), .second, .val (.long z0), .second, .val (.int k0), .val (.int (2 : Int32)), .val (.long qa), .second, .val (.long qb), .second, .val (.long qc), .second, .val (.ref b1), .val (.ref b4), .val (.long qb), .second, .val (.long qa), .second] [(.ref b4)])) rfl (by rw [hml]; rfl) (Steps.refl _) (argsL := []) (rest := []) (lenOf pd0_3 rfl) rfl (by show 2 * 0 + _ ≤ _; exact Nat.le_of_eq rfl) (hb hby at_181) (fun _ _ => ⟨rfl, e71, (by decide : 11 + 0 ≤ _), (by decide : 72 + 0 ≤ _)⟩)
    dsimp only [Pt.U, Pt.locs, Pt.cells, Pt.slots] at X72 lq72 yq72 zq72 st72 hQ72
    subst lq72 yq72 zq72
    obtain ⟨rfl, Nq72, e72⟩ := hQ72
    have N72 := Fr.app N71 Nq72
    refine OGo.steps st72 ?_
    show OGo p e below _ (T72.setTop (mkF m 184 #[.val (.long x0), .second, .val (.long y0), .second, .val (.long z0), .second, .val (.int k0), .val (.int (2 : Int32)), .val (.long qa), .second, .val (.long qb), .second, .val (.long qc), .second, .val (.ref b1), .val (.ref b4), .val (.long qb), .second, .val (.long qa), .second] [(.long qa)]))
    refine OGo.step (fun uK kK => XS.lload X72.here hx rfl (hb hby at_184) rfl kK) ?_
    show OGo p e below _ (T72.setTop (mkF m 186 #[.val (.long x0), .second, .val (.long y0), .second, .val (.long z0), .second, .val (.int k0), .val (.int (2 : Int32)), .val (.long qa), .second, .val (.long qb), .second, .val (.long qc), .second, .val (.ref b1), .val (.ref b4), .val (.long qb), .second, .val (.long qa), .second] [(.long qa), (.long qa)]))
    refine OGo.step (fun uK kK => XS.lcmp X72.here hx rfl (hb hby at_186) rfl kK) ?_
    show OGo p e below _ (T72.setTop (mkF m 187 #[.val (.long x0), .second, .val (.long y0), .second, .val (.long z0), .second, .val (.int k0), .val (.int (2 : Int32)), .val (.long qa), .second, .val (.long qb), .second, .val (.long qc), .second, .val (.ref b1), .val (.ref b4), .val (.long qb), .second, .val (.long qa), .second] [(.int (lcmpW qa qa))]))
    have hc187 : qa = qa := rfl
    refine OGo.step (fun uK kK => XS.ifNo X72.here hx rfl (hb hby at_187) rfl ((if0 _ _).trans (teq ((lw_eq _ _).mpr hc187)).2) kK) ?_
    show OGo p e below _ (T72.setTop (mkF m 190 #[.val (.long x0), .second, .val (.long y0), .second, .val (.long z0), .second, .val (.int k0), .val (.int (2 : Int32)), .val (.long qa), .second, .val (.long qb), .second, .val (.long qc), .second, .val (.ref b1), .val (.ref b4), .val (.long qb), .second, .val (.long qa), .second] []))
    refine OGo.step (fun uK kK => XS.aload X72.here hx rfl (hb hby at_190) rfl rfl kK) ?_
    show OGo p e below _ (T72.setTop (mkF m 192 #[.val (.long x0), .second, .val (.long y0), .second, .val (.long z0), .second, .val (.int k0), .val (.int (2 : Int32)), .val (.long qa), .second, .val (.long qb), .second, .val (.long qc), .second, .val (.ref b1), .val (.ref b4), .val (.long qb), .second, .val (.long qa), .second] [(.ref b4)]))
    obtain ⟨cq73, kq73, q73a, q73b, q73c⟩ := isOf hZ e72 A4_68
    obtain ⟨_, _, ⟨T73, Lq73, kq_73, nq_73⟩, -, X73, ⟨Lc73, hQ73, lq73, yq73, zq73⟩, st73⟩ := X72.virtualBack hx (y := (⟨"com/example/graph_of_conflicts/graphofconflicts/engine/Transaction", "hasSnapshot", "()Z"⟩ : MethodName)) (z := (⟨"com/example/graph_of_conflicts/graphofconflicts/engine/Transaction", "hasSnapshot", "()Z"⟩ : MethodName)) hown (mvT hZ (hw _ (List.mem_of_getElem? (i := 208) rfl))) (mvT hZ (hw _ (List.mem_of_getElem? (i := 209) rfl))) (notFace_of_selects (args := #[]) (mvT hZ (hw _ (List.mem_of_getElem? (i := 211) rfl)))) (mvT hZ (hw _ (List.mem_of_getElem? (i := 211) rfl))) (mvT hZ (hw _ (List.mem_of_getElem? (i := 210) rfl))) (by decide) (backOf (W := 0) (rmha l Z a0 hw [] b4 qb T67.heap n0 ZS67 Fq67) hZ (hw _ (List.mem_of_getElem? (i := 212) rfl)) (hw _ (List.mem_of_getElem? (i := 4) rfl)) (by decide) (by decide)) q73a q73c (g := (mkF m 192 #[.val (.long x0), .second, .val (.long y0), .second, .val (.long z0), .second, .val (.int k0), .val (.int (2 : Int32)), .val (.long qa), .second, .val (.long qb), .second, .val (.long qc), .second, .val (.ref b1), .val (.ref b4), .val (.long qb), .second, .val (.long qa), .second] [(.ref b4)])) rfl (by rw [hml]; rfl) (Steps.refl _) (argsL := []) (rest := []) (lenOf pd0_4 rfl) rfl (by show 2 * 0 + _ ≤ _; exact Nat.le_of_eq rfl) (hb hby at_192) (fun _ _ => ⟨rfl, e72, (by decide : 11 + 0 ≤ _), (by decide : 72 + 0 ≤ _)⟩)
    dsimp only [Pt.U, Pt.locs, Pt.cells, Pt.slots] at X73 lq73 yq73 zq73 st73 hQ73
    subst lq73 yq73 zq73
    obtain ⟨rfl, Nq73, e73⟩ := hQ73
    have N73 := Fr.app N72 Nq73
    refine OGo.steps st73 ?_
    show OGo p e below _ (T73.setTop (mkF m 195 #[.val (.long x0), .second, .val (.long y0), .second, .val (.long z0), .second, .val (.int k0), .val (.int (2 : Int32)), .val (.long qa), .second, .val (.long qb), .second, .val (.long qc), .second, .val (.ref b1), .val (.ref b4), .val (.long qb), .second, .val (.long qa), .second] [(.int (nar .boolean (if qb = (-1 : Int64) then (0 : Int32) else (1 : Int32))))]))
    refine OGo.step (fun uK kK => XS.iload X73.here hx rfl (hb hby at_195) rfl kK) ?_
    show OGo p e below _ (T73.setTop (mkF m 197 #[.val (.long x0), .second, .val (.long y0), .second, .val (.long z0), .second, .val (.int k0), .val (.int (2 : Int32)), .val (.long qa), .second, .val (.long qb), .second, .val (.long qc), .second, .val (.ref b1), .val (.ref b4), .val (.long qb), .second, .val (.long qa), .second] [(.int (2 : Int32)), (.int (nar .boolean (if qb = (-1 : Int64) then (0 : Int32) else (1 : Int32))))]))
    have hc197 : ¬ ((2 : Int32) = (0 : Int32)) := by decide
    refine OGo.step (fun uK kK => XS.ifNo X73.here hx rfl (hb hby at_197) rfl ((if0 _ _).trans (feq hc197).1) kK) ?_
    show OGo p e below _ (T73.setTop (mkF m 200 #[.val (.long x0), .second, .val (.long y0), .second, .val (.long z0), .second, .val (.int k0), .val (.int (2 : Int32)), .val (.long qa), .second, .val (.long qb), .second, .val (.long qc), .second, .val (.ref b1), .val (.ref b4), .val (.long qb), .second, .val (.long qa), .second] [(.int (nar .boolean (if qb = (-1 : Int64) then (0 : Int32) else (1 : Int32))))]))
    refine OGo.step (fun uK kK => XS.iconst X73.here hx rfl (hb hby at_200) kK) ?_
    show OGo p e below _ (T73.setTop (mkF m 201 #[.val (.long x0), .second, .val (.long y0), .second, .val (.long z0), .second, .val (.int k0), .val (.int (2 : Int32)), .val (.long qa), .second, .val (.long qb), .second, .val (.long qc), .second, .val (.ref b1), .val (.ref b4), .val (.long qb), .second, .val (.long qa), .second] [(.int (1 : Int32)), (.int (nar .boolean (if qb = (-1 : Int64) then (0 : Int32) else (1 : Int32))))]))
    refine OGo.step (fun uK kK => XS.goto X73.here hx rfl (pc0 := 201) (pc' := 205) rfl (hb hby at_201) (by decide) (by decide) kK) ?_
    show OGo p e below _ (T73.setTop (mkF m 205 #[.val (.long x0), .second, .val (.long y0), .second, .val (.long z0), .second, .val (.int k0), .val (.int (2 : Int32)), .val (.long qa), .second, .val (.long qb), .second, .val (.long qc), .second, .val (.ref b1), .val (.ref b4), .val (.long qb), .second, .val (.long qa), .second] [(.int (1 : Int32)), (.int (nar .boolean (if qb = (-1 : Int64) then (0 : Int32) else (1 : Int32))))]))
    have hc205 : (nar .boolean (if qb = (-1 : Int64) then (0 : Int32) else (1 : Int32))) = (1 : Int32) := by rw [if_neg hp_qb]; decide
    refine OGo.step (fun uK kK => XS.icmpNo X73.here hx rfl (hb hby at_205) rfl (teq hc205).2 kK) ?_
    show OGo p e below _ (T73.setTop (mkF m 208 #[.val (.long x0), .second, .val (.long y0), .second, .val (.long z0), .second, .val (.int k0), .val (.int (2 : Int32)), .val (.long qa), .second, .val (.long qb), .second, .val (.long qc), .second, .val (.ref b1), .val (.ref b4), .val (.long qb), .second, .val (.long qa), .second] []))
    refine OGo.step (fun uK kK => XS.iconst X73.here hx rfl (hb hby at_208) kK) ?_
    show OGo p e below _ (T73.setTop (mkF m 209 #[.val (.long x0), .second, .val (.long y0), .second, .val (.long z0), .second, .val (.int k0), .val (.int (2 : Int32)), .val (.long qa), .second, .val (.long qb), .second, .val (.long qc), .second, .val (.ref b1), .val (.ref b4), .val (.long qb), .second, .val (.long qa), .second] [(.int (1 : Int32))]))
    refine OGo.step (fun uK kK => XS.goto X73.here hx rfl (pc0 := 209) (pc' := 213) rfl (hb hby at_209) (by decide) (by decide) kK) ?_
    show OGo p e below _ (T73.setTop (mkF m 213 #[.val (.long x0), .second, .val (.long y0), .second, .val (.long z0), .second, .val (.int k0), .val (.int (2 : Int32)), .val (.long qa), .second, .val (.long qb), .second, .val (.long qc), .second, .val (.ref b1), .val (.ref b4), .val (.long qb), .second, .val (.long qa), .second] [(.int (1 : Int32))]))
    exact OGo.retN X73 hx Bd.notSynchronized (t := .boolean) Bd.returns (by simp) (hb hby at_213) (by decide) (by decide) (by show Q0 Z x0 y0 z0 k0 a_READ_COMMITTED a_REPEATABLE_READ a_SERIALIZABLE cs aE aA h0 n0 _ T73.heap _; rw [e73]; exact ⟨rfl, N73⟩)
  · skip
    subst h
    show OGo p e below _ (T36.setTop (mkF m 71 #[.val (.long x0), .second, .val (.long y0), .second, .val (.long z0), .second, .val (.int k0), .val (.int (3 : Int32)), .val (.long qa), .second, .val (.long qb), .second, .val (.long qc), .second, .val (.ref b1), .val (.ref b4), .unset, .unset, .unset, .unset] []))
    refine OGo.step (fun uK kK => XS.iload X36.here hx rfl (hb hby at_71) rfl kK) ?_
    show OGo p e below _ (T36.setTop (mkF m 73 #[.val (.long x0), .second, .val (.long y0), .second, .val (.long z0), .second, .val (.int k0), .val (.int (3 : Int32)), .val (.long qa), .second, .val (.long qb), .second, .val (.long qc), .second, .val (.ref b1), .val (.ref b4), .unset, .unset, .unset, .unset] [(.int (3 : Int32))]))
    refine OGo.step (fun uK kK => XS.iconst X36.here hx rfl (hb hby at_73) kK) ?_
    show OGo p e below _ (T36.setTop (mkF m 74 #[.val (.long x0), .second, .val (.long y0), .second, .val (.long z0), .second, .val (.int k0), .val (.int (3 : Int32)), .val (.long qa), .second, .val (.long qb), .second, .val (.long qc), .second, .val (.ref b1), .val (.ref b4), .unset, .unset, .unset, .unset] [(.int (1 : Int32)), (.int (3 : Int32))]))
    have hc74 : ¬ ((3 : Int32) < (1 : Int32)) := by decide
    refine OGo.step (fun uK kK => XS.icmpNo X36.here hx rfl (hb hby at_74) rfl (flt hc74).1 kK) ?_
    show OGo p e below _ (T36.setTop (mkF m 77 #[.val (.long x0), .second, .val (.long y0), .second, .val (.long z0), .second, .val (.int k0), .val (.int (3 : Int32)), .val (.long qa), .second, .val (.long qb), .second, .val (.long qc), .second, .val (.ref b1), .val (.ref b4), .unset, .unset, .unset, .unset] []))
    refine OGo.step (fun uK kK => XS.aload X36.here hx rfl (hb hby at_77) rfl rfl kK) ?_
    show OGo p e below _ (T36.setTop (mkF m 79 #[.val (.long x0), .second, .val (.long y0), .second, .val (.long z0), .second, .val (.int k0), .val (.int (3 : Int32)), .val (.long qa), .second, .val (.long qb), .second, .val (.long qc), .second, .val (.ref b1), .val (.ref b4), .unset, .unset, .unset, .unset] [(.ref b4)]))
    refine OGo.step (fun uK kK => XS.lload X36.here hx rfl (hb hby at_79) rfl kK) ?_
    show OGo p e below _ (T36.setTop (mkF m 81 #[.val (.long x0), .second, .val (.long y0), .second, .val (.long z0), .second, .val (.int k0), .val (.int (3 : Int32)), .val (.long qa), .second, .val (.long qb), .second, .val (.long qc), .second, .val (.ref b1), .val (.ref b4), .unset, .unset, .unset, .unset] [(.long qa), (.ref b4)]))
    obtain ⟨cq74, kq74, q74a, q74b, q74c⟩ := isOf hZ rfl A4_37
    obtain ⟨_, _, ⟨T74, Lq74, kq_74, nq_74⟩, -, X74, ⟨Lc74, hQ74, lq74, yq74, zq74⟩, st74⟩ := X36.virtualBack hx (y := (⟨"com/example/graph_of_conflicts/graphofconflicts/engine/Transaction", "takeSnapshot", "(J)V"⟩ : MethodName)) (z := (⟨"com/example/graph_of_conflicts/graphofconflicts/engine/Transaction", "takeSnapshot", "(J)V"⟩ : MethodName)) hown (mvT hZ (hw _ (List.mem_of_getElem? (i := 193) rfl))) (mvT hZ (hw _ (List.mem_of_getElem? (i := 194) rfl))) (notFace_of_selects (args := #[]) (mvT hZ (hw _ (List.mem_of_getElem? (i := 196) rfl)))) (mvT hZ (hw _ (List.mem_of_getElem? (i := 196) rfl))) (mvT hZ (hw _ (List.mem_of_getElem? (i := 195) rfl))) (by decide) (backOf (W := 0) (rmt1 l Z a0 hw [] b4 qa (-1 : Int64) T36.heap n0 ZS36 Fs36 Fq36 A4_37 gn_b4) hZ (hw _ (List.mem_of_getElem? (i := 197) rfl)) (hw _ (List.mem_of_getElem? (i := 4) rfl)) (by decide) (by decide)) q74a q74c (g := (mkF m 81 #[.val (.long x0), .second, .val (.long y0), .second, .val (.long z0), .second, .val (.int k0), .val (.int (3 : Int32)), .val (.long qa), .second, .val (.long qb), .second, .val (.long qc), .second, .val (.ref b1), .val (.ref b4), .unset, .unset, .unset, .unset] [(.long qa), (.ref b4)])) rfl (by rw [hml]; rfl) (Steps.refl _) (argsL := [(.long qa)]) (rest := []) (lenOf pd0_5 rfl) rfl (by show 2 * 0 + _ ≤ _; exact Nat.le_of_eq rfl) (hb hby at_81) (fun _ _ => ⟨rfl, rfl, (by decide : 11 + 0 ≤ _), (by decide : 72 + 0 ≤ _)⟩)
    dsimp only [Pt.U, Pt.locs, Pt.cells, Pt.slots] at X74 lq74 yq74 zq74 st74 hQ74
    subst lq74 yq74 zq74
    obtain ⟨rfl, Nq74, K74, Fs74, Fq74⟩ := hQ74
    have A4_75 := (A4_37.keep K74)
    have ZS74 : n0 ≤ T74.heap.size := Nat.le_trans ZS36 K74.1
    have KC74 : Keep h0 T74.heap [] := KC36.trans K74 (allS (Or.inr sz_b4) all0)
    have Od74 := Od36.keep K74 (allS gn_b4 all0)
    have N74 := Fr.app N36 Nq74
    refine OGo.steps st74 ?_
    show OGo p e below _ (T74.setTop (mkF m 84 #[.val (.long x0), .second, .val (.long y0), .second, .val (.long z0), .second, .val (.int k0), .val (.int (3 : Int32)), .val (.long qa), .second, .val (.long qb), .second, .val (.long qc), .second, .val (.ref b1), .val (.ref b4), .unset, .unset, .unset, .unset] []))
    refine OGo.step (fun uK kK => XS.iload X74.here hx rfl (hb hby at_84) rfl kK) ?_
    show OGo p e below _ (T74.setTop (mkF m 86 #[.val (.long x0), .second, .val (.long y0), .second, .val (.long z0), .second, .val (.int k0), .val (.int (3 : Int32)), .val (.long qa), .second, .val (.long qb), .second, .val (.long qc), .second, .val (.ref b1), .val (.ref b4), .unset, .unset, .unset, .unset] [(.int (3 : Int32))]))
    refine OGo.step (fun uK kK => XS.iconst X74.here hx rfl (hb hby at_86) kK) ?_
    show OGo p e below _ (T74.setTop (mkF m 87 #[.val (.long x0), .second, .val (.long y0), .second, .val (.long z0), .second, .val (.int k0), .val (.int (3 : Int32)), .val (.long qa), .second, .val (.long qb), .second, .val (.long qc), .second, .val (.ref b1), .val (.ref b4), .unset, .unset, .unset, .unset] [(.int (2 : Int32)), (.int (3 : Int32))]))
    have hc87 : ¬ ((3 : Int32) < (2 : Int32)) := by decide
    refine OGo.step (fun uK kK => XS.icmpNo X74.here hx rfl (hb hby at_87) rfl (flt hc87).1 kK) ?_
    show OGo p e below _ (T74.setTop (mkF m 90 #[.val (.long x0), .second, .val (.long y0), .second, .val (.long z0), .second, .val (.int k0), .val (.int (3 : Int32)), .val (.long qa), .second, .val (.long qb), .second, .val (.long qc), .second, .val (.ref b1), .val (.ref b4), .unset, .unset, .unset, .unset] []))
    refine OGo.step (fun uK kK => XS.aload X74.here hx rfl (hb hby at_90) rfl rfl kK) ?_
    show OGo p e below _ (T74.setTop (mkF m 92 #[.val (.long x0), .second, .val (.long y0), .second, .val (.long z0), .second, .val (.int k0), .val (.int (3 : Int32)), .val (.long qa), .second, .val (.long qb), .second, .val (.long qc), .second, .val (.ref b1), .val (.ref b4), .unset, .unset, .unset, .unset] [(.ref b4)]))
    refine OGo.step (fun uK kK => XS.lload X74.here hx rfl (hb hby at_92) rfl kK) ?_
    show OGo p e below _ (T74.setTop (mkF m 94 #[.val (.long x0), .second, .val (.long y0), .second, .val (.long z0), .second, .val (.int k0), .val (.int (3 : Int32)), .val (.long qa), .second, .val (.long qb), .second, .val (.long qc), .second, .val (.ref b1), .val (.ref b4), .unset, .unset, .unset, .unset] [(.long qb), (.ref b4)]))
    obtain ⟨cq78, kq78, q78a, q78b, q78c⟩ := isOf hZ rfl A4_75
    obtain ⟨_, _, ⟨T78, Lq78, kq_78, nq_78⟩, -, X78, ⟨Lc78, hQ78, lq78, yq78, zq78⟩, st78⟩ := X74.virtualBack hx (y := (⟨"com/example/graph_of_conflicts/graphofconflicts/engine/Transaction", "takeSnapshot", "(J)V"⟩ : MethodName)) (z := (⟨"com/example/graph_of_conflicts/graphofconflicts/engine/Transaction", "takeSnapshot", "(J)V"⟩ : MethodName)) hown (mvT hZ (hw _ (List.mem_of_getElem? (i := 193) rfl))) (mvT hZ (hw _ (List.mem_of_getElem? (i := 194) rfl))) (notFace_of_selects (args := #[]) (mvT hZ (hw _ (List.mem_of_getElem? (i := 196) rfl)))) (mvT hZ (hw _ (List.mem_of_getElem? (i := 196) rfl))) (mvT hZ (hw _ (List.mem_of_getElem? (i := 195) rfl))) (by decide) (backOf (W := 0) (rmt2 l Z a0 hw [] b4 qb qa qa T74.heap n0 ZS74 Fs74 Fq74 A4_75 gn_b4 hp_qa) hZ (hw _ (List.mem_of_getElem? (i := 197) rfl)) (hw _ (List.mem_of_getElem? (i := 4) rfl)) (by decide) (by decide)) q78a q78c (g := (mkF m 94 #[.val (.long x0), .second, .val (.long y0), .second, .val (.long z0), .second, .val (.int k0), .val (.int (3 : Int32)), .val (.long qa), .second, .val (.long qb), .second, .val (.long qc), .second, .val (.ref b1), .val (.ref b4), .unset, .unset, .unset, .unset] [(.long qb), (.ref b4)])) rfl (by rw [hml]; rfl) (Steps.refl _) (argsL := [(.long qb)]) (rest := []) (lenOf pd0_5 rfl) rfl (by show 2 * 0 + _ ≤ _; exact Nat.le_of_eq rfl) (hb hby at_94) (fun _ _ => ⟨rfl, rfl, (by decide : 11 + 0 ≤ _), (by decide : 72 + 0 ≤ _)⟩)
    dsimp only [Pt.U, Pt.locs, Pt.cells, Pt.slots] at X78 lq78 yq78 zq78 st78 hQ78
    subst lq78 yq78 zq78
    obtain ⟨rfl, Nq78, K78, Fs78, Fq78⟩ := hQ78
    have A4_79 := (A4_75.keep K78)
    have ZS78 : n0 ≤ T78.heap.size := Nat.le_trans ZS74 K78.1
    have KC78 : Keep h0 T78.heap [] := KC74.trans K78 (allS (Or.inr sz_b4) all0)
    have Od78 := Od74.keep K78 (allS gn_b4 all0)
    have N78 := Fr.app N74 Nq78
    refine OGo.steps st78 ?_
    show OGo p e below _ (T78.setTop (mkF m 97 #[.val (.long x0), .second, .val (.long y0), .second, .val (.long z0), .second, .val (.int k0), .val (.int (3 : Int32)), .val (.long qa), .second, .val (.long qb), .second, .val (.long qc), .second, .val (.ref b1), .val (.ref b4), .unset, .unset, .unset, .unset] []))
    refine OGo.step (fun uK kK => XS.iload X78.here hx rfl (hb hby at_97) rfl kK) ?_
    show OGo p e below _ (T78.setTop (mkF m 99 #[.val (.long x0), .second, .val (.long y0), .second, .val (.long z0), .second, .val (.int k0), .val (.int (3 : Int32)), .val (.long qa), .second, .val (.long qb), .second, .val (.long qc), .second, .val (.ref b1), .val (.ref b4), .unset, .unset, .unset, .unset] [(.int (3 : Int32))]))
    refine OGo.step (fun uK kK => XS.iconst X78.here hx rfl (hb hby at_99) kK) ?_
    show OGo p e below _ (T78.setTop (mkF m 100 #[.val (.long x0), .second, .val (.long y0), .second, .val (.long z0), .second, .val (.int k0), .val (.int (3 : Int32)), .val (.long qa), .second, .val (.long qb), .second, .val (.long qc), .second, .val (.ref b1), .val (.ref b4), .unset, .unset, .unset, .unset] [(.int (3 : Int32)), (.int (3 : Int32))]))
    have hc100 : ¬ ((3 : Int32) < (3 : Int32)) := by decide
    refine OGo.step (fun uK kK => XS.icmpNo X78.here hx rfl (hb hby at_100) rfl (flt hc100).1 kK) ?_
    show OGo p e below _ (T78.setTop (mkF m 103 #[.val (.long x0), .second, .val (.long y0), .second, .val (.long z0), .second, .val (.int k0), .val (.int (3 : Int32)), .val (.long qa), .second, .val (.long qb), .second, .val (.long qc), .second, .val (.ref b1), .val (.ref b4), .unset, .unset, .unset, .unset] []))
    refine OGo.step (fun uK kK => XS.aload X78.here hx rfl (hb hby at_103) rfl rfl kK) ?_
    show OGo p e below _ (T78.setTop (mkF m 105 #[.val (.long x0), .second, .val (.long y0), .second, .val (.long z0), .second, .val (.int k0), .val (.int (3 : Int32)), .val (.long qa), .second, .val (.long qb), .second, .val (.long qc), .second, .val (.ref b1), .val (.ref b4), .unset, .unset, .unset, .unset] [(.ref b4)]))
    refine OGo.step (fun uK kK => XS.lload X78.here hx rfl (hb hby at_105) rfl kK) ?_
    show OGo p e below _ (T78.setTop (mkF m 107 #[.val (.long x0), .second, .val (.long y0), .second, .val (.long z0), .second, .val (.int k0), .val (.int (3 : Int32)), .val (.long qa), .second, .val (.long qb), .second, .val (.long qc), .second, .val (.ref b1), .val (.ref b4), .unset, .unset, .unset, .unset] [(.long qc), (.ref b4)]))
    obtain ⟨cq82, kq82, q82a, q82b, q82c⟩ := isOf hZ rfl A4_79
    obtain ⟨_, _, ⟨T82, Lq82, kq_82, nq_82⟩, -, X82, ⟨Lc82, hQ82, lq82, yq82, zq82⟩, st82⟩ := X78.virtualBack hx (y := (⟨"com/example/graph_of_conflicts/graphofconflicts/engine/Transaction", "takeSnapshot", "(J)V"⟩ : MethodName)) (z := (⟨"com/example/graph_of_conflicts/graphofconflicts/engine/Transaction", "takeSnapshot", "(J)V"⟩ : MethodName)) hown (mvT hZ (hw _ (List.mem_of_getElem? (i := 193) rfl))) (mvT hZ (hw _ (List.mem_of_getElem? (i := 194) rfl))) (notFace_of_selects (args := #[]) (mvT hZ (hw _ (List.mem_of_getElem? (i := 196) rfl)))) (mvT hZ (hw _ (List.mem_of_getElem? (i := 196) rfl))) (mvT hZ (hw _ (List.mem_of_getElem? (i := 195) rfl))) (by decide) (backOf (W := 0) (rmt2 l Z a0 hw [] b4 qc qa qb T78.heap n0 ZS78 Fs78 Fq78 A4_79 gn_b4 hp_qa) hZ (hw _ (List.mem_of_getElem? (i := 197) rfl)) (hw _ (List.mem_of_getElem? (i := 4) rfl)) (by decide) (by decide)) q82a q82c (g := (mkF m 107 #[.val (.long x0), .second, .val (.long y0), .second, .val (.long z0), .second, .val (.int k0), .val (.int (3 : Int32)), .val (.long qa), .second, .val (.long qb), .second, .val (.long qc), .second, .val (.ref b1), .val (.ref b4), .unset, .unset, .unset, .unset] [(.long qc), (.ref b4)])) rfl (by rw [hml]; rfl) (Steps.refl _) (argsL := [(.long qc)]) (rest := []) (lenOf pd0_5 rfl) rfl (by show 2 * 0 + _ ≤ _; exact Nat.le_of_eq rfl) (hb hby at_107) (fun _ _ => ⟨rfl, rfl, (by decide : 11 + 0 ≤ _), (by decide : 72 + 0 ≤ _)⟩)
    dsimp only [Pt.U, Pt.locs, Pt.cells, Pt.slots] at X82 lq82 yq82 zq82 st82 hQ82
    subst lq82 yq82 zq82
    obtain ⟨rfl, Nq82, K82, Fs82, Fq82⟩ := hQ82
    have A4_83 := (A4_79.keep K82)
    have ZS82 : n0 ≤ T82.heap.size := Nat.le_trans ZS78 K82.1
    have KC82 : Keep h0 T82.heap [] := KC78.trans K82 (allS (Or.inr sz_b4) all0)
    have Od82 := Od78.keep K82 (allS gn_b4 all0)
    have N82 := Fr.app N78 Nq82
    refine OGo.steps st82 ?_
    show OGo p e below _ (T82.setTop (mkF m 110 #[.val (.long x0), .second, .val (.long y0), .second, .val (.long z0), .second, .val (.int k0), .val (.int (3 : Int32)), .val (.long qa), .second, .val (.long qb), .second, .val (.long qc), .second, .val (.ref b1), .val (.ref b4), .unset, .unset, .unset, .unset] []))
    refine OGo.step (fun uK kK => XS.iload X82.here hx rfl (hb hby at_110) rfl kK) ?_
    show OGo p e below _ (T82.setTop (mkF m 112 #[.val (.long x0), .second, .val (.long y0), .second, .val (.long z0), .second, .val (.int k0), .val (.int (3 : Int32)), .val (.long qa), .second, .val (.long qb), .second, .val (.long qc), .second, .val (.ref b1), .val (.ref b4), .unset, .unset, .unset, .unset] [(.int (3 : Int32))]))
    have hc112 : ¬ ((3 : Int32) = (0 : Int32)) := by decide
    refine OGo.step (fun uK kK => XS.ifYes X82.here hx rfl (pc0 := 112) (pc' := 123) rfl (hb hby at_112) rfl ((if0 _ _).trans (feq hc112).2) (by decide) (by decide) kK) ?_
    show OGo p e below _ (T82.setTop (mkF m 123 #[.val (.long x0), .second, .val (.long y0), .second, .val (.long z0), .second, .val (.int k0), .val (.int (3 : Int32)), .val (.long qa), .second, .val (.long qb), .second, .val (.long qc), .second, .val (.ref b1), .val (.ref b4), .unset, .unset, .unset, .unset] []))
    refine OGo.step (fun uK kK => XS.iload X82.here hx rfl (hb hby at_123) rfl kK) ?_
    show OGo p e below _ (T82.setTop (mkF m 125 #[.val (.long x0), .second, .val (.long y0), .second, .val (.long z0), .second, .val (.int k0), .val (.int (3 : Int32)), .val (.long qa), .second, .val (.long qb), .second, .val (.long qc), .second, .val (.ref b1), .val (.ref b4), .unset, .unset, .unset, .unset] [(.int (3 : Int32))]))
    refine OGo.step (fun uK kK => XS.iconst X82.here hx rfl (hb hby at_125) kK) ?_
    show OGo p e below _ (T82.setTop (mkF m 126 #[.val (.long x0), .second, .val (.long y0), .second, .val (.long z0), .second, .val (.int k0), .val (.int (3 : Int32)), .val (.long qa), .second, .val (.long qb), .second, .val (.long qc), .second, .val (.ref b1), .val (.ref b4), .unset, .unset, .unset, .unset] [(.int (1 : Int32)), (.int (3 : Int32))]))
    have hc126 : ¬ ((3 : Int32) = (1 : Int32)) := by decide
    refine OGo.step (fun uK kK => XS.icmpYes X82.here hx rfl (pc0 := 126) (pc' := 136) rfl (hb hby at_126) rfl (feq hc126).2 (by decide) (by decide) kK) ?_
    show OGo p e below _ (T82.setTop (mkF m 136 #[.val (.long x0), .second, .val (.long y0), .second, .val (.long z0), .second, .val (.int k0), .val (.int (3 : Int32)), .val (.long qa), .second, .val (.long qb), .second, .val (.long qc), .second, .val (.ref b1), .val (.ref b4), .unset, .unset, .unset, .unset] []))
    refine OGo.step (fun uK kK => XS.iload X82.here hx rfl (hb hby at_136) rfl kK) ?_
    show OGo p e below _ (T82.setTop (mkF m 138 #[.val (.long x0), .second, .val (.long y0), .second, .val (.long z0), .second, .val (.int k0), .val (.int (3 : Int32)), .val (.long qa), .second, .val (.long qb), .second, .val (.long qc), .second, .val (.ref b1), .val (.ref b4), .unset, .unset, .unset, .unset] [(.int (3 : Int32))]))
    refine OGo.step (fun uK kK => XS.iconst X82.here hx rfl (hb hby at_138) kK) ?_
    show OGo p e below _ (T82.setTop (mkF m 139 #[.val (.long x0), .second, .val (.long y0), .second, .val (.long z0), .second, .val (.int k0), .val (.int (3 : Int32)), .val (.long qa), .second, .val (.long qb), .second, .val (.long qc), .second, .val (.ref b1), .val (.ref b4), .unset, .unset, .unset, .unset] [(.int (2 : Int32)), (.int (3 : Int32))]))
    have hc139 : ¬ ((3 : Int32) = (2 : Int32)) := by decide
    refine OGo.step (fun uK kK => XS.icmpYes X82.here hx rfl (pc0 := 139) (pc' := 149) rfl (hb hby at_139) rfl (feq hc139).2 (by decide) (by decide) kK) ?_
    show OGo p e below _ (T82.setTop (mkF m 149 #[.val (.long x0), .second, .val (.long y0), .second, .val (.long z0), .second, .val (.int k0), .val (.int (3 : Int32)), .val (.long qa), .second, .val (.long qb), .second, .val (.long qc), .second, .val (.ref b1), .val (.ref b4), .unset, .unset, .unset, .unset] []))
    refine OGo.step (fun uK kK => XS.lload X82.here hx rfl (hb hby at_149) rfl kK) ?_
    show OGo p e below _ (T82.setTop (mkF m 151 #[.val (.long x0), .second, .val (.long y0), .second, .val (.long z0), .second, .val (.int k0), .val (.int (3 : Int32)), .val (.long qa), .second, .val (.long qb), .second, .val (.long qc), .second, .val (.ref b1), .val (.ref b4), .unset, .unset, .unset, .unset] [(.long qc)]))
    refine OGo.step (fun uK kK => XS.lstore X82.here hx rfl (hb hby at_151) rfl (l' := #[.val (.long x0), .second, .val (.long y0), .second, .val (.long z0), .second, .val (.int k0), .val (.int (3 : Int32)), .val (.long qa), .second, .val (.long qb), .second, .val (.long qc), .second, .val (.ref b1), .val (.ref b4), .val (.long qc), .second, .unset, .unset]) rfl kK) ?_
    show OGo p e below _ (T82.setTop (mkF m 153 #[.val (.long x0), .second, .val (.long y0), .second, .val (.long z0), .second, .val (.int k0), .val (.int (3 : Int32)), .val (.long qa), .second, .val (.long qb), .second, .val (.long qc), .second, .val (.ref b1), .val (.ref b4), .val (.long qc), .second, .unset, .unset] []))
    refine OGo.step (fun uK kK => XS.iload X82.here hx rfl (hb hby at_153) rfl kK) ?_
    show OGo p e below _ (T82.setTop (mkF m 155 #[.val (.long x0), .second, .val (.long y0), .second, .val (.long z0), .second, .val (.int k0), .val (.int (3 : Int32)), .val (.long qa), .second, .val (.long qb), .second, .val (.long qc), .second, .val (.ref b1), .val (.ref b4), .val (.long qc), .second, .unset, .unset] [(.int (3 : Int32))]))
    have hc155 : ¬ ((3 : Int32) = (0 : Int32)) := by decide
    refine OGo.step (fun uK kK => XS.ifYes X82.here hx rfl (pc0 := 155) (pc' := 164) rfl (hb hby at_155) rfl ((if0 _ _).trans (feq hc155).2) (by decide) (by decide) kK) ?_
    show OGo p e below _ (T82.setTop (mkF m 164 #[.val (.long x0), .second, .val (.long y0), .second, .val (.long z0), .second, .val (.int k0), .val (.int (3 : Int32)), .val (.long qa), .second, .val (.long qb), .second, .val (.long qc), .second, .val (.ref b1), .val (.ref b4), .val (.long qc), .second, .unset, .unset] []))
    refine OGo.step (fun uK kK => XS.lload X82.here hx rfl (hb hby at_164) rfl kK) ?_
    show OGo p e below _ (T82.setTop (mkF m 166 #[.val (.long x0), .second, .val (.long y0), .second, .val (.long z0), .second, .val (.int k0), .val (.int (3 : Int32)), .val (.long qa), .second, .val (.long qb), .second, .val (.long qc), .second, .val (.ref b1), .val (.ref b4), .val (.long qc), .second, .unset, .unset] [(.long qa)]))
    refine OGo.step (fun uK kK => XS.lstore X82.here hx rfl (hb hby at_166) rfl (l' := #[.val (.long x0), .second, .val (.long y0), .second, .val (.long z0), .second, .val (.int k0), .val (.int (3 : Int32)), .val (.long qa), .second, .val (.long qb), .second, .val (.long qc), .second, .val (.ref b1), .val (.ref b4), .val (.long qc), .second, .val (.long qa), .second]) rfl kK) ?_
    show OGo p e below _ (T82.setTop (mkF m 168 #[.val (.long x0), .second, .val (.long y0), .second, .val (.long z0), .second, .val (.int k0), .val (.int (3 : Int32)), .val (.long qa), .second, .val (.long qb), .second, .val (.long qc), .second, .val (.ref b1), .val (.ref b4), .val (.long qc), .second, .val (.long qa), .second] []))
    refine OGo.step (fun uK kK => XS.aload X82.here hx rfl (hb hby at_168) rfl rfl kK) ?_
    show OGo p e below _ (T82.setTop (mkF m 170 #[.val (.long x0), .second, .val (.long y0), .second, .val (.long z0), .second, .val (.int k0), .val (.int (3 : Int32)), .val (.long qa), .second, .val (.long qb), .second, .val (.long qc), .second, .val (.ref b1), .val (.ref b4), .val (.long qc), .second, .val (.long qa), .second] [(.ref b4)]))
    obtain ⟨cq86, kq86, q86a, q86b, q86c⟩ := isOf hZ rfl A4_83
    obtain ⟨_, _, ⟨T86, Lq86, kq_86, nq_86⟩, -, X86, ⟨Lc86, hQ86, lq86, yq86, zq86⟩, st86⟩ := X82.virtualBack hx (y := (⟨"com/example/graph_of_conflicts/graphofconflicts/engine/Transaction", "getSnapshot", "()J"⟩ : MethodName)) (z := (⟨"com/example/graph_of_conflicts/graphofconflicts/engine/Transaction", "getSnapshot", "()J"⟩ : MethodName)) hown (mvT hZ (hw _ (List.mem_of_getElem? (i := 198) rfl))) (mvT hZ (hw _ (List.mem_of_getElem? (i := 199) rfl))) (notFace_of_selects (args := #[]) (mvT hZ (hw _ (List.mem_of_getElem? (i := 201) rfl)))) (mvT hZ (hw _ (List.mem_of_getElem? (i := 201) rfl))) (mvT hZ (hw _ (List.mem_of_getElem? (i := 200) rfl))) (by decide) (backOf (W := 0) (rmgs l Z a0 hw [] b4 qc T82.heap n0 ZS82 Fq82) hZ (hw _ (List.mem_of_getElem? (i := 202) rfl)) (hw _ (List.mem_of_getElem? (i := 4) rfl)) (by decide) (by decide)) q86a q86c (g := (mkF m 170 #[.val (.long x0), .second, .val (.long y0), .second, .val (.long z0), .second, .val (.int k0), .val (.int (3 : Int32)), .val (.long qa), .second, .val (.long qb), .second, .val (.long qc), .second, .val (.ref b1), .val (.ref b4), .val (.long qc), .second, .val (.long qa), .second] [(.ref b4)])) rfl (by rw [hml]; rfl) (Steps.refl _) (argsL := []) (rest := []) (lenOf pd0_3 rfl) rfl (by show 2 * 0 + _ ≤ _; exact Nat.le_of_eq rfl) (hb hby at_170) (fun _ _ => ⟨rfl, rfl, (by decide : 11 + 0 ≤ _), (by decide : 72 + 0 ≤ _)⟩)
    dsimp only [Pt.U, Pt.locs, Pt.cells, Pt.slots] at X86 lq86 yq86 zq86 st86 hQ86
    subst lq86 yq86 zq86
    obtain ⟨rfl, Nq86, e86⟩ := hQ86
    have N86 := Fr.app N82 Nq86
    refine OGo.steps st86 ?_
    show OGo p e below _ (T86.setTop (mkF m 173 #[.val (.long x0), .second, .val (.long y0), .second, .val (.long z0), .second, .val (.int k0), .val (.int (3 : Int32)), .val (.long qa), .second, .val (.long qb), .second, .val (.long qc), .second, .val (.ref b1), .val (.ref b4), .val (.long qc), .second, .val (.long qa), .second] [(.long qc)]))
    refine OGo.step (fun uK kK => XS.lload X86.here hx rfl (hb hby at_173) rfl kK) ?_
    show OGo p e below _ (T86.setTop (mkF m 175 #[.val (.long x0), .second, .val (.long y0), .second, .val (.long z0), .second, .val (.int k0), .val (.int (3 : Int32)), .val (.long qa), .second, .val (.long qb), .second, .val (.long qc), .second, .val (.ref b1), .val (.ref b4), .val (.long qc), .second, .val (.long qa), .second] [(.long qc), (.long qc)]))
    refine OGo.step (fun uK kK => XS.lcmp X86.here hx rfl (hb hby at_175) rfl kK) ?_
    show OGo p e below _ (T86.setTop (mkF m 176 #[.val (.long x0), .second, .val (.long y0), .second, .val (.long z0), .second, .val (.int k0), .val (.int (3 : Int32)), .val (.long qa), .second, .val (.long qb), .second, .val (.long qc), .second, .val (.ref b1), .val (.ref b4), .val (.long qc), .second, .val (.long qa), .second] [(.int (lcmpW qc qc))]))
    have hc176 : qc = qc := rfl
    refine OGo.step (fun uK kK => XS.ifNo X86.here hx rfl (hb hby at_176) rfl ((if0 _ _).trans (teq ((lw_eq _ _).mpr hc176)).2) kK) ?_
    show OGo p e below _ (T86.setTop (mkF m 179 #[.val (.long x0), .second, .val (.long y0), .second, .val (.long z0), .second, .val (.int k0), .val (.int (3 : Int32)), .val (.long qa), .second, .val (.long qb), .second, .val (.long qc), .second, .val (.ref b1), .val (.ref b4), .val (.long qc), .second, .val (.long qa), .second] []))
    refine OGo.step (fun uK kK => XS.aload X86.here hx rfl (hb hby at_179) rfl rfl kK) ?_
    show OGo p e below _ (T86.setTop (mkF m 181 #[.val (.long x0), .second, .val (.long y0), .second, .val (.long z0), .second, .val (.int k0), .val (.int (3 : Int32)), .val (.long qa), .second, .val (.long qb), .second, .val (.long qc), .second, .val (.ref b1), .val (.ref b4), .val (.long qc), .second, .val (.long qa), .second] [(.ref b4)]))
    obtain ⟨cq87, kq87, q87a, q87b, q87c⟩ := isOf hZ e86 A4_83
    obtain ⟨_, _, ⟨T87, Lq87, kq_87, nq_87⟩, -, X87, ⟨Lc87, hQ87, lq87, yq87, zq87⟩, st87⟩ := X86.virtualBack hx (y := (⟨"com/example/graph_of_conflicts/graphofconflicts/engine/Transaction", "getFirstSnapshot", "()J"⟩ : MethodName)) (z := (⟨"com/example/graph_of_conflicts/graphofconflicts/engine/Transaction", "getFirstSnapshot", "()J"⟩ : MethodName)) hown (mvT hZ (hw _ (List.mem_of_getElem? (i := 203) rfl))) (mvT hZ (hw _ (List.mem_of_getElem? (i := 204) rfl))) (notFace_of_selects (args := #[]) (mvT hZ (hw _ (List.mem_of_getElem? (i := 206) rfl)))) (mvT hZ (hw _ (List.mem_of_getElem? (i := 206) rfl))) (mvT hZ (hw _ (List.mem_of_getElem? (i := 205) rfl))) (by decide) (backOf (W := 0) (rmgf l Z a0 hw [] b4 qa T82.heap n0 ZS82 Fs82) hZ (hw _ (List.mem_of_getElem? (i := 207) rfl)) (hw _ (List.mem_of_getElem? (i := 4) rfl)) (by decide) (by decide)) q87a q87c (g := (mkF m 181 #[.val (.long x0), .second, .val (.long y0), .second, .val (.long z0), .second, .val (.int k0), .val (.int (3 : Int32)), .val (.long qa), .second, .val (.long qb), .second, .val (.long qc), .second, .val (.ref b1), .val (.ref b4), .val (.long qc), .second, .val (.long qa), .second] [(.ref b4)])) rfl (by rw [hml]; rfl) (Steps.refl _) (argsL := []) (rest := []) (lenOf pd0_3 rfl) rfl (by show 2 * 0 + _ ≤ _; exact Nat.le_of_eq rfl) (hb hby at_181) (fun _ _ => ⟨rfl, e86, (by decide : 11 + 0 ≤ _), (by decide : 72 + 0 ≤ _)⟩)
    dsimp only [Pt.U, Pt.locs, Pt.cells, Pt.slots] at X87 lq87 yq87 zq87 st87 hQ87
    subst lq87 yq87 zq87
    obtain ⟨rfl, Nq87, e87⟩ := hQ87
    have N87 := Fr.app N86 Nq87
    refine OGo.steps st87 ?_
    show OGo p e below _ (T87.setTop (mkF m 184 #[.val (.long x0), .second, .val (.long y0), .second, .val (.long z0), .second, .val (.int k0), .val (.int (3 : Int32)), .val (.long qa), .second, .val (.long qb), .second, .val (.long qc), .second, .val (.ref b1), .val (.ref b4), .val (.long qc), .second, .val (.long qa), .second] [(.long qa)]))
    refine OGo.step (fun uK kK => XS.lload X87.here hx rfl (hb hby at_184) rfl kK) ?_
    show OGo p e below _ (T87.setTop (mkF m 186 #[.val (.long x0), .second, .val (.long y0), .second, .val (.long z0), .second, .val (.int k0), .val (.int (3 : Int32)), .val (.long qa), .second, .val (.long qb), .second, .val (.long qc), .second, .val (.ref b1), .val (.ref b4), .val (.long qc), .second, .val (.long qa), .second] [(.long qa), (.long qa)]))
    refine OGo.step (fun uK kK => XS.lcmp X87.here hx rfl (hb hby at_186) rfl kK) ?_
    show OGo p e below _ (T87.setTop (mkF m 187 #[.val (.long x0), .second, .val (.long y0), .second, .val (.long z0), .second, .val (.int k0), .val (.int (3 : Int32)), .val (.long qa), .second, .val (.long qb), .second, .val (.long qc), .second, .val (.ref b1), .val (.ref b4), .val (.long qc), .second, .val (.long qa), .second] [(.int (lcmpW qa qa))]))
    have hc187 : qa = qa := rfl
    refine OGo.step (fun uK kK => XS.ifNo X87.here hx rfl (hb hby at_187) rfl ((if0 _ _).trans (teq ((lw_eq _ _).mpr hc187)).2) kK) ?_
    show OGo p e below _ (T87.setTop (mkF m 190 #[.val (.long x0), .second, .val (.long y0), .second, .val (.long z0), .second, .val (.int k0), .val (.int (3 : Int32)), .val (.long qa), .second, .val (.long qb), .second, .val (.long qc), .second, .val (.ref b1), .val (.ref b4), .val (.long qc), .second, .val (.long qa), .second] []))
    refine OGo.step (fun uK kK => XS.aload X87.here hx rfl (hb hby at_190) rfl rfl kK) ?_
    show OGo p e below _ (T87.setTop (mkF m 192 #[.val (.long x0), .second, .val (.long y0), .second, .val (.long z0), .second, .val (.int k0), .val (.int (3 : Int32)), .val (.long qa), .second, .val (.long qb), .second, .val (.long qc), .second, .val (.ref b1), .val (.ref b4), .val (.long qc), .second, .val (.long qa), .second] [(.ref b4)]))
    obtain ⟨cq88, kq88, q88a, q88b, q88c⟩ := isOf hZ e87 A4_83
    obtain ⟨_, _, ⟨T88, Lq88, kq_88, nq_88⟩, -, X88, ⟨Lc88, hQ88, lq88, yq88, zq88⟩, st88⟩ := X87.virtualBack hx (y := (⟨"com/example/graph_of_conflicts/graphofconflicts/engine/Transaction", "hasSnapshot", "()Z"⟩ : MethodName)) (z := (⟨"com/example/graph_of_conflicts/graphofconflicts/engine/Transaction", "hasSnapshot", "()Z"⟩ : MethodName)) hown (mvT hZ (hw _ (List.mem_of_getElem? (i := 208) rfl))) (mvT hZ (hw _ (List.mem_of_getElem? (i := 209) rfl))) (notFace_of_selects (args := #[]) (mvT hZ (hw _ (List.mem_of_getElem? (i := 211) rfl)))) (mvT hZ (hw _ (List.mem_of_getElem? (i := 211) rfl))) (mvT hZ (hw _ (List.mem_of_getElem? (i := 210) rfl))) (by decide) (backOf (W := 0) (rmha l Z a0 hw [] b4 qc T82.heap n0 ZS82 Fq82) hZ (hw _ (List.mem_of_getElem? (i := 212) rfl)) (hw _ (List.mem_of_getElem? (i := 4) rfl)) (by decide) (by decide)) q88a q88c (g := (mkF m 192 #[.val (.long x0), .second, .val (.long y0), .second, .val (.long z0), .second, .val (.int k0), .val (.int (3 : Int32)), .val (.long qa), .second, .val (.long qb), .second, .val (.long qc), .second, .val (.ref b1), .val (.ref b4), .val (.long qc), .second, .val (.long qa), .second] [(.ref b4)])) rfl (by rw [hml]; rfl) (Steps.refl _) (argsL := []) (rest := []) (lenOf pd0_4 rfl) rfl (by show 2 * 0 + _ ≤ _; exact Nat.le_of_eq rfl) (hb hby at_192) (fun _ _ => ⟨rfl, e87, (by decide : 11 + 0 ≤ _), (by decide : 72 + 0 ≤ _)⟩)
    dsimp only [Pt.U, Pt.locs, Pt.cells, Pt.slots] at X88 lq88 yq88 zq88 st88 hQ88
    subst lq88 yq88 zq88
    obtain ⟨rfl, Nq88, e88⟩ := hQ88
    have N88 := Fr.app N87 Nq88
    refine OGo.steps st88 ?_
    show OGo p e below _ (T88.setTop (mkF m 195 #[.val (.long x0), .second, .val (.long y0), .second, .val (.long z0), .second, .val (.int k0), .val (.int (3 : Int32)), .val (.long qa), .second, .val (.long qb), .second, .val (.long qc), .second, .val (.ref b1), .val (.ref b4), .val (.long qc), .second, .val (.long qa), .second] [(.int (nar .boolean (if qc = (-1 : Int64) then (0 : Int32) else (1 : Int32))))]))
    refine OGo.step (fun uK kK => XS.iload X88.here hx rfl (hb hby at_195) rfl kK) ?_
    show OGo p e below _ (T88.setTop (mkF m 197 #[.val (.long x0), .second, .val (.long y0), .second, .val (.long z0), .second, .val (.int k0), .val (.int (3 : Int32)), .val (.long qa), .second, .val (.long qb), .second, .val (.long qc), .second, .val (.ref b1), .val (.ref b4), .val (.long qc), .second, .val (.long qa), .second] [(.int (3 : Int32)), (.int (nar .boolean (if qc = (-1 : Int64) then (0 : Int32) else (1 : Int32))))]))
    have hc197 : ¬ ((3 : Int32) = (0 : Int32)) := by decide
    refine OGo.step (fun uK kK => XS.ifNo X88.here hx rfl (hb hby at_197) rfl ((if0 _ _).trans (feq hc197).1) kK) ?_
    show OGo p e below _ (T88.setTop (mkF m 200 #[.val (.long x0), .second, .val (.long y0), .second, .val (.long z0), .second, .val (.int k0), .val (.int (3 : Int32)), .val (.long qa), .second, .val (.long qb), .second, .val (.long qc), .second, .val (.ref b1), .val (.ref b4), .val (.long qc), .second, .val (.long qa), .second] [(.int (nar .boolean (if qc = (-1 : Int64) then (0 : Int32) else (1 : Int32))))]))
    refine OGo.step (fun uK kK => XS.iconst X88.here hx rfl (hb hby at_200) kK) ?_
    show OGo p e below _ (T88.setTop (mkF m 201 #[.val (.long x0), .second, .val (.long y0), .second, .val (.long z0), .second, .val (.int k0), .val (.int (3 : Int32)), .val (.long qa), .second, .val (.long qb), .second, .val (.long qc), .second, .val (.ref b1), .val (.ref b4), .val (.long qc), .second, .val (.long qa), .second] [(.int (1 : Int32)), (.int (nar .boolean (if qc = (-1 : Int64) then (0 : Int32) else (1 : Int32))))]))
    refine OGo.step (fun uK kK => XS.goto X88.here hx rfl (pc0 := 201) (pc' := 205) rfl (hb hby at_201) (by decide) (by decide) kK) ?_
    show OGo p e below _ (T88.setTop (mkF m 205 #[.val (.long x0), .second, .val (.long y0), .second, .val (.long z0), .second, .val (.int k0), .val (.int (3 : Int32)), .val (.long qa), .second, .val (.long qb), .second, .val (.long qc), .second, .val (.ref b1), .val (.ref b4), .val (.long qc), .second, .val (.long qa), .second] [(.int (1 : Int32)), (.int (nar .boolean (if qc = (-1 : Int64) then (0 : Int32) else (1 : Int32))))]))
    have hc205 : (nar .boolean (if qc = (-1 : Int64) then (0 : Int32) else (1 : Int32))) = (1 : Int32) := by rw [if_neg hp_qc]; decide
    refine OGo.step (fun uK kK => XS.icmpNo X88.here hx rfl (hb hby at_205) rfl (teq hc205).2 kK) ?_
    show OGo p e below _ (T88.setTop (mkF m 208 #[.val (.long x0), .second, .val (.long y0), .second, .val (.long z0), .second, .val (.int k0), .val (.int (3 : Int32)), .val (.long qa), .second, .val (.long qb), .second, .val (.long qc), .second, .val (.ref b1), .val (.ref b4), .val (.long qc), .second, .val (.long qa), .second] []))
    refine OGo.step (fun uK kK => XS.iconst X88.here hx rfl (hb hby at_208) kK) ?_
    show OGo p e below _ (T88.setTop (mkF m 209 #[.val (.long x0), .second, .val (.long y0), .second, .val (.long z0), .second, .val (.int k0), .val (.int (3 : Int32)), .val (.long qa), .second, .val (.long qb), .second, .val (.long qc), .second, .val (.ref b1), .val (.ref b4), .val (.long qc), .second, .val (.long qa), .second] [(.int (1 : Int32))]))
    refine OGo.step (fun uK kK => XS.goto X88.here hx rfl (pc0 := 209) (pc' := 213) rfl (hb hby at_209) (by decide) (by decide) kK) ?_
    show OGo p e below _ (T88.setTop (mkF m 213 #[.val (.long x0), .second, .val (.long y0), .second, .val (.long z0), .second, .val (.int k0), .val (.int (3 : Int32)), .val (.long qa), .second, .val (.long qb), .second, .val (.long qc), .second, .val (.ref b1), .val (.ref b4), .val (.long qc), .second, .val (.long qa), .second] [(.int (1 : Int32))]))
    exact OGo.retN X88 hx Bd.notSynchronized (t := .boolean) Bd.returns (by simp) (hb hby at_213) (by decide) (by decide) (by show Q0 Z x0 y0 z0 k0 a_READ_COMMITTED a_REPEATABLE_READ a_SERIALIZABLE cs aE aA h0 n0 _ T88.heap _; rw [e88]; exact ⟨rfl, N88⟩)
set_option maxRecDepth 65536 in
set_option maxHeartbeats 40000000 in
theorem comes_1 {Post : Tables → Env → Array Value → State → Outcome → State → Prop} (hpost : ∀ tb e args s v u, (limb_1_1.after args s (.returned v) u = true ∧ limb_1_2.after args s (.returned v) u = true ∧ True) → FrameEnd s (.returned v) u (Jvm.fieldLocs frame_1_writes args s ++ Jvm.arrayLocs frame_1_arrays args s ++ Jvm.staticLocs frame_1_statics s) 32 256 → Post tb e args s (.returned v) u) :
    ArmFor flags0 classFile x code maxLocals ret World_1 tables_1 room_1 Calls_1 rest_1 Pre_1 Post := by
  intro l hfl _ _ p e ha hc hk s m args below hf hA hF happ hP
  obtain ⟨hcalls, hrest, hpre⟩ := hP
  obtain ⟨-, -, -, hnamed, -, -, -, hat⟩ := (Spec.applies_iff hf).mp happ
  obtain ⟨hg, hn⟩ := and_e (Cond.before_iff.mp (show (Jvm.Cond.and given_1 narrow_1).before args s = true from hpre))
  obtain ⟨hcount, hg0⟩ := and_e hg
  obtain ⟨ga0, hg1⟩ := and_e hg0
  obtain ⟨ga1, hg2⟩ := and_e hg1
  obtain ⟨ga2, hg3⟩ := and_e hg2
  have ga3 := hg3
  obtain ⟨w0, w1, w2, w3, rfl⟩ : ∃ w0 w1 w2 w3 : Value, args = #[w0, w1, w2, w3] := by
    have hs : args.size = 4 := by simpa [Cond.value, given_1] using hcount
    obtain ⟨L⟩ := args
    match L, hs with
    | [w0, w1, w2, w3], _ => exact ⟨w0, w1, w2, w3, rfl⟩
  have hw := fun d (hd : d ∈ tables_1) => atoms_spec (ws := Jvm.Cond.code x code maxLocals ret :: tables_1) hat d (List.mem_cons_of_mem _ hd)
  have hfit : Fit s := fun {y c} hc i hi => by
    obtain ⟨ha, rfl⟩ := Array.getElem?_eq_some_iff.mp hc
    have q := List.all_eq_true.mp ((Array.all_eq_true_iff_forall_mem.mp hF) _ (Array.getElem_mem ha)) i (List.mem_range.mpr hi)
    simpa [Array.getElem?_eq_getElem hi] using q
  obtain ⟨hsets, hown0⟩ := atoms_of _ (rest_1_c_eq ▸ (show rest_1_c.before _ s = true from hrest))
  obtain ⟨i0, ei0⟩ := isL_v ga0
  obtain rfl : w0 = (.long i0) := Option.some.inj ei0
  obtain ⟨i1, ei1⟩ := isL_v ga1
  obtain rfl : w1 = (.long i1) := Option.some.inj ei1
  obtain ⟨i2, ei2⟩ := isL_v ga2
  obtain rfl : w2 = (.long i2) := Option.some.inj ei2
  obtain ⟨i3, ei3⟩ := is_v ga3
  obtain rfl : w3 = (.int i3) := Option.some.inj ei3
  obtain ⟨nc0, ncr0⟩ := and_e hn
  obtain ⟨nc1, ncr1⟩ := and_e ncr0
  obtain ⟨nc2, ncr2⟩ := and_e ncr1
  have nc3 := ncr2
  obtain ⟨a_READ_COMMITTED, ev_READ_COMMITTED⟩ := exa_v nc0
  have S_READ_COMMITTED := Sta.start ev_READ_COMMITTED (Or.inr ⟨(hw _ (List.mem_of_getElem? (i := 10) rfl)), (hw _ (List.mem_of_getElem? (i := 11) rfl))⟩)
  obtain ⟨a_REPEATABLE_READ, ev_REPEATABLE_READ⟩ := exa_v nc2
  have S_REPEATABLE_READ := Sta.start ev_REPEATABLE_READ (Or.inr ⟨(hw _ (List.mem_of_getElem? (i := 10) rfl)), (hw _ (List.mem_of_getElem? (i := 215) rfl))⟩)
  obtain ⟨a_SERIALIZABLE, ev_SERIALIZABLE⟩ := exa_v nc3
  have S_SERIALIZABLE := Sta.start ev_SERIALIZABLE (Or.inr ⟨(hw _ (List.mem_of_getElem? (i := 10) rfl)), (hw _ (List.mem_of_getElem? (i := 217) rfl))⟩)
  obtain ⟨aA, evA⟩ := exa_v nc1
  have SAC := Sta.start evA (Or.inr ⟨(hw _ (List.mem_of_getElem? (i := 46) rfl)), (hw _ (List.mem_of_getElem? (i := 47) rfl))⟩)
  obtain ⟨cs, evc⟩ := is_v (Cond.before_iff.mp (hsets _ (List.mem_of_getElem? (i := 1) rfl)))
  have SCS := Sta.start evc (Or.inl (hsets _ (List.mem_of_getElem? (i := 0) rfl)))
  have hcs : ¬ (cs = (0 : Int32)) := fun q => own_not0 evc q (Cond.before_iff.mp (hsets _ (List.mem_of_getElem? (i := 2) rfl)))
  obtain ⟨aE, evE⟩ := exa_v (Cond.before_iff.mp (hsets _ (List.mem_of_getElem? (i := 11) rfl)))
  have SES := Sta.start evE (Or.inl (hsets _ (List.mem_of_getElem? (i := 10) rfl)))
  obtain ⟨n, o, h1, h2, h3, _, L, rfl, ⟨rfl, N⟩, hq⟩ := rm0 l s _ hw tables_1 i0 i1 i2 i3 a_READ_COMMITTED a_REPEATABLE_READ a_SERIALIZABLE cs aE aA s.heap s.heap.size (Nat.le_refl _) S_READ_COMMITTED S_REPEATABLE_READ S_SERIALIZABLE SCS hcs SES SAC (Old.start s) p e ha hc hk s m _ below hf ((Spec.applies_iff_loose hf).mp happ).1 ⟨rfl, State.Warmed39.refl s, rfl⟩ trivial
  refine ⟨n, _, h1, h2, h3, hpost _ _ _ _ _ _ ⟨Cond.after_iff.mpr rfl, Cond.after_iff.mpr (eq_i res_at (Term.int_eval (1)) rfl), trivial⟩ ⟨hq.1, hq.2.1, (hq.2.2.sift fun y hy => Or.inr (N y hy)).mono (by decide) (by decide)⟩⟩
theorem main_1_1 : Claimed_1_1 := comes_1 fun _ _ _ _ _ _ h hF => ⟨h.1, hF⟩
theorem main_1_2 : Claimed_1_2 := comes_1 fun _ _ _ _ _ _ h hF => ⟨h.2.1, hF⟩
end Jvm.Pilot.@@N@@
namespace Jvm.Pilot.@@N@@
open Jvm Jvm.ClassFile Sem Op Lib Jvm.Free Jvm.Stand Jvm.Pilot.@@N@@.Jvm.D
/-! MADE BY PROGRAM (witnessworld.py) out of the Statement's table words and the real class files: 47 classes; the members and pool entries that the words name. The judged class is class 1, her method 2. -/
namespace start1
open Jvm.ClassFile
def u (s : String) : CpInfo := .utf8 (stringToUtf16 s)
/-- a pool by its gaps: so many unusable entries, then the entry; so many at the end -/
def gap : Nat → List CpInfo → List CpInfo
  | 0, r => r
  | n + 1, r => .unusable :: gap n r
def poolList (es : List (Nat × CpInfo)) (last : Nat) : List CpInfo := es.foldr (fun e r => gap e.1 (e.2 :: r)) (gap last [])
def pool (es : List (Nat × CpInfo)) (last : Nat) : Array CpInfo := ⟨poolList es last⟩
def fileOf (pool : Array CpInfo) (this : Nat) (attrs : Array Attribute := #[]) (ms : Array MethodInfo := #[]) (fl : Nat := 33) (sup : Nat := 0) (ifs : Array Nat := #[]) (fds : Array FieldInfo := #[]) : ClassFile where
  minorVersion := 0
  majorVersion := 65
  constantPool := pool
  accessFlags := fl
  thisClass := this
  superClass := sup
  interfaces := ifs
  fields := fds
  methods := ms
  attributes := attrs
def plain (name : String) (sup : Option ClassId) : Class where
  name := name
  kind := .ordinary
  loader := none
  accessFlags := 33
  super := sup
  interfaces := #[]
  cf := none
  fields := #[]
  methods := #[]
  instanceTypes := #[]
  staticTypes := #[]
  resolved := #[]
  callSites := []
  init := .initialized
  statics := none
  mirror := none

def pool0 : Array CpInfo := pool [(5, u "<init>"), (0, u "()V"), (1, .class_ 10), (1, u "java/lang/Object")] 113

def k0c0 : Code := { maxStack := 0, maxLocals := 1, code := object_method_1_code, exceptionTable := #[], attributes := #[] }
def k0m0 : Method := { name := "<init>", desc := "()V", sig := { parameters := [], returnType := none }, accessFlags := 1, code := some k0c0 }
/-- java/lang/Object -/
def k0 : Class := { plain "java/lang/Object" none with
  accessFlags := 33
  interfaces := #[]
  cf := some (fileOf pool0 8 #[] #[{ accessFlags := 1, nameIndex := 5, descriptorIndex := 6, attributes := #[] }] 33 0 #[] #[])
  fields := #[]
  methods := #[k0m0]
  instanceTypes := #[]
  staticTypes := #[]
  resolved := Array.replicate 124 none
  statics := none }

def pool1 : Array CpInfo := pool [(2, .class_ 4), (1, u "java/lang/Object"), (0, u "<init>"), (0, u "()V"), (0, .fieldref 8 9), (0, .class_ 10), (0, .nameAndType 11 12), (0, u "com/example/graph_of_conflicts/graphofconflicts/api/IsolationLevel"), (0, u "READ_COMMITTED"), (0, u "Lcom/example/graph_of_conflicts/graphofconflicts/api/IsolationLevel;"), (0, .fieldref 8 14), (0, .nameAndType 15 12), (0, u "REPEATABLE_READ"), (0, .fieldref 8 17), (0, .nameAndType 18 12), (0, u "SERIALIZABLE"), (2, .long 9223372036854775807), (1, .class_ 24), (0, u "com/example/graph_of_conflicts/graphofconflicts/engine/Transaction"), (0, .methodref 26 27), (0, .class_ 28), (0, .nameAndType 29 30), (0, u "com/example/graph_of_conflicts/graphofconflicts/engine/TransactionTakeSnapshotPinLaw"), (0, u "level"), (0, u "(I)Lcom/example/graph_of_conflicts/graphofconflicts/api/IsolationLevel;"), (0, .class_ 32), (0, u "java/lang/String"), (0, .methodref 31 34), (0, .nameAndType 5 35), (0, u "([C)V"), (0, .methodref 23 37), (0, .nameAndType 5 38), (0, u "(Lcom/example/graph_of_conflicts/graphofconflicts/api/IsolationLevel;Ljava/lang/String;)V"), (0, .methodref 23 40), (0, .nameAndType 41 42), (0, u "takeSnapshot"), (0, u "(J)V"), (0, .long 18446744073709551615), (1, .methodref 23 46), (0, .nameAndType 47 48), (0, u "getSnapshot"), (0, u "()J"), (0, .methodref 23 50), (0, .nameAndType 51 48), (0, u "getFirstSnapshot"), (0, .methodref 23 53), (0, .nameAndType 54 55), (0, u "hasSnapshot"), (0, u "()Z"), (3, u "law"), (0, u "(JJJI)Z")] 4

def k1m0 : Method := { name := "<init>", desc := "()V", sig := { parameters := [], returnType := none }, accessFlags := 2, code := none }
def k1c1 : Code := { maxStack := 2, maxLocals := 2, code := method_2_code, exceptionTable := #[], attributes := #[] }
def k1m1 : Method := { name := "level", desc := "(I)Lcom/example/graph_of_conflicts/graphofconflicts/api/IsolationLevel;", sig := { parameters := [.int], returnType := some (.object "com/example/graph_of_conflicts/graphofconflicts/api/IsolationLevel") }, accessFlags := 10, code := some k1c1 }
def k1c2 : Code := { maxStack := 6, maxLocals := 20, code := code, exceptionTable := #[], attributes := #[] }
def k1m2 : Method := { name := "law", desc := "(JJJI)Z", sig := { parameters := [.long, .long, .long, .int], returnType := some .boolean }, accessFlags := 9, code := some k1c2 }
/-- com/example/graph_of_conflicts/graphofconflicts/engine/TransactionTakeSnapshotPinLaw -/
def k1 : Class := { plain "com/example/graph_of_conflicts/graphofconflicts/engine/TransactionTakeSnapshotPinLaw" (some 0) with
  accessFlags := 49
  interfaces := #[]
  cf := some (fileOf pool1 26 #[] #[{ accessFlags := 2, nameIndex := 5, descriptorIndex := 6, attributes := #[] }, { accessFlags := 10, nameIndex := 29, descriptorIndex := 30, attributes := #[] }, { accessFlags := 9, nameIndex := 59, descriptorIndex := 60, attributes := #[] }] 49 2 #[] #[])
  fields := #[]
  methods := #[k1m0, k1m1, k1m2]
  instanceTypes := #[]
  staticTypes := #[]
  resolved := Array.replicate 65 none
  statics := none }

def pool2 : Array CpInfo := pool [(1, .methodref 2 3), (0, .class_ 4), (0, .nameAndType 5 6), (0, u "java/lang/Object"), (0, u "<init>"), (0, u "()V"), (0, .fieldref 8 9), (0, .class_ 10), (0, .nameAndType 11 12), (0, u "com/example/graph_of_conflicts/graphofconflicts/api/TransactionState"), (0, u "ACTIVE"), (0, u "Lcom/example/graph_of_conflicts/graphofconflicts/api/TransactionState;"), (0, .fieldref 14 15), (0, .class_ 16), (0, .nameAndType 17 12), (0, u "com/example/graph_of_conflicts/graphofconflicts/engine/Transaction"), (0, u "state"), (0, .long 18446744073709551615), (1, .fieldref 14 21), (0, .nameAndType 22 23), (0, u "start"), (0, u "J"), (0, .fieldref 14 25), (0, .nameAndType 26 23), (0, u "snapshot"), (0, .class_ 28), (0, u "com/example/graph_of_conflicts/graphofconflicts/engine/KeysByTable"), (0, .methodref 27 3), (0, .fieldref 14 31), (0, .nameAndType 32 33), (0, u "writtenKeys"), (0, u "Lcom/example/graph_of_conflicts/graphofconflicts/engine/KeysByTable;"), (0, .class_ 35), (0, u "java/util/LinkedHashSet"), (0, .methodref 34 3), (0, .fieldref 14 38), (0, .nameAndType 39 40), (0, u "lockedTables"), (0, u "Ljava/util/Set;"), (0, .class_ 42), (0, u "com/example/graph_of_conflicts/graphofconflicts/engine/Node"), (0, .methodref 41 3), (0, .fieldref 14 45), (0, .nameAndType 46 47), (0, u "node"), (0, u "Lcom/example/graph_of_conflicts/graphofconflicts/engine/Node;"), (0, .fieldref 14 49), (0, .nameAndType 50 51), (0, u "level"), (0, u "Lcom/example/graph_of_conflicts/graphofconflicts/api/IsolationLevel;"), (0, .fieldref 14 53), (0, .nameAndType 54 55), (0, u "label"), (0, u "Ljava/lang/String;"), (0, .methodref 57 58), (0, .class_ 59), (0, .nameAndType 60 61), (0, u "java/lang/String"), (0, u "hashCode"), (0, u "()I"), (0, .fieldref 14 63), (0, .nameAndType 64 65), (0, u "hash"), (0, u "I"), (10, u "recorded"), (0, u "Z"), (5, u "commitNumber"), (7, u "()Z"), (5, u "failure"), (0, u "Lcom/example/graph_of_conflicts/graphofconflicts/api/StoreException;"), (12, u "NO_SNAPSHOT"), (3, u "(Lcom/example/graph_of_conflicts/graphofconflicts/api/IsolationLevel;Ljava/lang/String;)V"), (9, u "hasSnapshot"), (0, u "getSnapshot"), (0, u "()J"), (0, u "getFirstSnapshot"), (0, u "takeSnapshot"), (0, u "(J)V")] 26

def k2c0 : Code := { maxStack := 3, maxLocals := 3, code := prog_62_method_1_code, exceptionTable := #[], attributes := #[] }
def k2m0 : Method := { name := "<init>", desc := "(Lcom/example/graph_of_conflicts/graphofconflicts/api/IsolationLevel;Ljava/lang/String;)V", sig := { parameters := [(.object "com/example/graph_of_conflicts/graphofconflicts/api/IsolationLevel"), (.object "java/lang/String")], returnType := none }, accessFlags := 0, code := some k2c0 }
def k2c1 : Code := { maxStack := 4, maxLocals := 1, code := prog_62_method_7_code, exceptionTable := #[], attributes := #[] }
def k2m1 : Method := { name := "hasSnapshot", desc := "()Z", sig := { parameters := [], returnType := some .boolean }, accessFlags := 0, code := some k2c1 }
def k2c2 : Code := { maxStack := 2, maxLocals := 1, code := prog_62_method_8_code, exceptionTable := #[], attributes := #[] }
def k2m2 : Method := { name := "getSnapshot", desc := "()J", sig := { parameters := [], returnType := some .long }, accessFlags := 0, code := some k2c2 }
def k2c3 : Code := { maxStack := 2, maxLocals := 1, code := prog_62_method_9_code, exceptionTable := #[], attributes := #[] }
def k2m3 : Method := { name := "getFirstSnapshot", desc := "()J", sig := { parameters := [], returnType := some .long }, accessFlags := 0, code := some k2c3 }
def k2c4 : Code := { maxStack := 4, maxLocals := 3, code := prog_62_method_10_code, exceptionTable := #[], attributes := #[] }
def k2m4 : Method := { name := "takeSnapshot", desc := "(J)V", sig := { parameters := [.long], returnType := none }, accessFlags := 0, code := some k2c4 }
/-- com/example/graph_of_conflicts/graphofconflicts/engine/Transaction -/
def k2 : Class := { plain "com/example/graph_of_conflicts/graphofconflicts/engine/Transaction" (some 0) with
  accessFlags := 33
  interfaces := #[]
  cf := some (fileOf pool2 14 #[] #[{ accessFlags := 0, nameIndex := 5, descriptorIndex := 115, attributes := #[] }, { accessFlags := 0, nameIndex := 125, descriptorIndex := 91, attributes := #[] }, { accessFlags := 0, nameIndex := 126, descriptorIndex := 127, attributes := #[] }, { accessFlags := 0, nameIndex := 128, descriptorIndex := 127, attributes := #[] }, { accessFlags := 0, nameIndex := 129, descriptorIndex := 130, attributes := #[] }] 33 2 #[] #[{ accessFlags := 26, nameIndex := 111, descriptorIndex := 23, attributes := #[] }, { accessFlags := 18, nameIndex := 50, descriptorIndex := 51, attributes := #[] }, { accessFlags := 18, nameIndex := 54, descriptorIndex := 55, attributes := #[] }, { accessFlags := 66, nameIndex := 17, descriptorIndex := 12, attributes := #[] }, { accessFlags := 2, nameIndex := 22, descriptorIndex := 23, attributes := #[] }, { accessFlags := 2, nameIndex := 26, descriptorIndex := 23, attributes := #[] }, { accessFlags := 2, nameIndex := 83, descriptorIndex := 23, attributes := #[] }, { accessFlags := 2, nameIndex := 97, descriptorIndex := 98, attributes := #[] }, { accessFlags := 2, nameIndex := 32, descriptorIndex := 33, attributes := #[] }, { accessFlags := 18, nameIndex := 39, descriptorIndex := 40, attributes := #[] }, { accessFlags := 18, nameIndex := 46, descriptorIndex := 47, attributes := #[] }, { accessFlags := 2, nameIndex := 76, descriptorIndex := 77, attributes := #[] }, { accessFlags := 18, nameIndex := 64, descriptorIndex := 65, attributes := #[] }])
  fields := #[{ name := "NO_SNAPSHOT", type := .long, accessFlags := 26, slot := 0, constantValue := 0 }, { name := "level", type := (.object "com/example/graph_of_conflicts/graphofconflicts/api/IsolationLevel"), accessFlags := 18, slot := 0, constantValue := 0 }, { name := "label", type := (.object "java/lang/String"), accessFlags := 18, slot := 1, constantValue := 0 }, { name := "state", type := (.object "com/example/graph_of_conflicts/graphofconflicts/api/TransactionState"), accessFlags := 66, slot := 2, constantValue := 0 }, { name := "start", type := .long, accessFlags := 2, slot := 3, constantValue := 0 }, { name := "snapshot", type := .long, accessFlags := 2, slot := 4, constantValue := 0 }, { name := "commitNumber", type := .long, accessFlags := 2, slot := 5, constantValue := 0 }, { name := "failure", type := (.object "com/example/graph_of_conflicts/graphofconflicts/api/StoreException"), accessFlags := 2, slot := 6, constantValue := 0 }, { name := "writtenKeys", type := (.object "com/example/graph_of_conflicts/graphofconflicts/engine/KeysByTable"), accessFlags := 2, slot := 7, constantValue := 0 }, { name := "lockedTables", type := (.object "java/util/Set"), accessFlags := 18, slot := 8, constantValue := 0 }, { name := "node", type := (.object "com/example/graph_of_conflicts/graphofconflicts/engine/Node"), accessFlags := 18, slot := 9, constantValue := 0 }, { name := "recorded", type := .boolean, accessFlags := 2, slot := 10, constantValue := 0 }, { name := "hash", type := .int, accessFlags := 18, slot := 11, constantValue := 0 }]
  methods := #[k2m0, k2m1, k2m2, k2m3, k2m4]
  instanceTypes := #[(.object "com/example/graph_of_conflicts/graphofconflicts/api/IsolationLevel"), (.object "java/lang/String"), (.object "com/example/graph_of_conflicts/graphofconflicts/api/TransactionState"), .long, .long, .long, (.object "com/example/graph_of_conflicts/graphofconflicts/api/StoreException"), (.object "com/example/graph_of_conflicts/graphofconflicts/engine/KeysByTable"), (.object "java/util/Set"), (.object "com/example/graph_of_conflicts/graphofconflicts/engine/Node"), .boolean, .int]
  staticTypes := #[.long]
  resolved := Array.replicate 157 none
  statics := none }

def pool3 : Array CpInfo := pool [(1, .class_ 2), (0, u "java/lang/constant/Constable"), (0, .class_ 4), (0, u "java/lang/Object")] 6

/-- java/lang/constant/Constable -/
def k3 : Class := { plain "java/lang/constant/Constable" (some 0) with
  accessFlags := 1537
  interfaces := #[]
  cf := some (fileOf pool3 1 #[] #[] 1537 3 #[] #[])
  fields := #[]
  methods := #[]
  instanceTypes := #[]
  staticTypes := #[]
  resolved := Array.replicate 11 none
  statics := none }

def pool4 : Array CpInfo := pool [(1, .class_ 2), (0, u "java/lang/Comparable"), (0, .class_ 4), (0, u "java/lang/Object")] 7

/-- java/lang/Comparable -/
def k4 : Class := { plain "java/lang/Comparable" (some 0) with
  accessFlags := 1537
  interfaces := #[]
  cf := some (fileOf pool4 1 #[] #[] 1537 3 #[] #[])
  fields := #[]
  methods := #[]
  instanceTypes := #[]
  staticTypes := #[]
  resolved := Array.replicate 12 none
  statics := none }

def pool5 : Array CpInfo := pool [(1, .class_ 2), (0, u "java/io/Serializable"), (0, .class_ 4), (0, u "java/lang/Object")] 2

/-- java/io/Serializable -/
def k5 : Class := { plain "java/io/Serializable" (some 0) with
  accessFlags := 1537
  interfaces := #[]
  cf := some (fileOf pool5 1 #[] #[] 1537 3 #[] #[])
  fields := #[]
  methods := #[]
  instanceTypes := #[]
  staticTypes := #[]
  resolved := Array.replicate 7 none
  statics := none }

def pool6 : Array CpInfo := pool [(2, .class_ 4), (1, u "java/lang/Enum"), (0, u "name"), (0, u "Ljava/lang/String;"), (2, u "ordinal"), (0, u "I"), (1, .class_ 14), (1, u "java/lang/Object"), (4, u "hash"), (86, .class_ 108), (1, u "java/lang/Enum$EnumDesc"), (2, .class_ 112), (0, u "java/lang/constant/Constable"), (0, .class_ 114), (0, u "java/lang/Comparable"), (0, .class_ 116), (0, u "java/io/Serializable")] 87

/-- java/lang/Enum -/
def k6 : Class := { plain "java/lang/Enum" (some 0) with
  accessFlags := 1057
  interfaces := #[3, 4, 5]
  cf := some (fileOf pool6 2 #[.nestMembers #[106]] #[] 1057 12 #[111, 113, 115] #[{ accessFlags := 18, nameIndex := 5, descriptorIndex := 6, attributes := #[] }, { accessFlags := 18, nameIndex := 9, descriptorIndex := 10, attributes := #[] }, { accessFlags := 2, nameIndex := 19, descriptorIndex := 10, attributes := #[] }])
  fields := #[{ name := "name", type := (.object "java/lang/String"), accessFlags := 18, slot := 0, constantValue := 0 }, { name := "ordinal", type := .int, accessFlags := 18, slot := 1, constantValue := 0 }, { name := "hash", type := .int, accessFlags := 2, slot := 2, constantValue := 0 }]
  methods := #[]
  instanceTypes := #[(.object "java/lang/String"), .int, .int]
  staticTypes := #[]
  resolved := Array.replicate 204 none
  statics := none }

def pool7 : Array CpInfo := pool [(1, .class_ 2), (0, u "com/example/graph_of_conflicts/graphofconflicts/api/IsolationLevel"), (2, u "READ_COMMITTED"), (0, u "Lcom/example/graph_of_conflicts/graphofconflicts/api/IsolationLevel;"), (2, u "REPEATABLE_READ"), (2, u "SERIALIZABLE"), (2, u "$VALUES"), (0, u "[Lcom/example/graph_of_conflicts/graphofconflicts/api/IsolationLevel;"), (6, .class_ 25), (1, u "java/lang/Enum"), (8, u "sqlName"), (0, u "Ljava/lang/String;")] 30

/-- com/example/graph_of_conflicts/graphofconflicts/api/IsolationLevel -/
def k7 : Class := { plain "com/example/graph_of_conflicts/graphofconflicts/api/IsolationLevel" (some 6) with
  accessFlags := 16433
  interfaces := #[]
  cf := some (fileOf pool7 1 #[] #[] 16433 23 #[] #[{ accessFlags := 16409, nameIndex := 5, descriptorIndex := 6, attributes := #[] }, { accessFlags := 16409, nameIndex := 9, descriptorIndex := 6, attributes := #[] }, { accessFlags := 16409, nameIndex := 12, descriptorIndex := 6, attributes := #[] }, { accessFlags := 18, nameIndex := 34, descriptorIndex := 35, attributes := #[] }, { accessFlags := 4122, nameIndex := 15, descriptorIndex := 16, attributes := #[] }])
  fields := #[{ name := "READ_COMMITTED", type := (.object "com/example/graph_of_conflicts/graphofconflicts/api/IsolationLevel"), accessFlags := 16409, slot := 0, constantValue := 0 }, { name := "REPEATABLE_READ", type := (.object "com/example/graph_of_conflicts/graphofconflicts/api/IsolationLevel"), accessFlags := 16409, slot := 1, constantValue := 0 }, { name := "SERIALIZABLE", type := (.object "com/example/graph_of_conflicts/graphofconflicts/api/IsolationLevel"), accessFlags := 16409, slot := 2, constantValue := 0 }, { name := "sqlName", type := (.object "java/lang/String"), accessFlags := 18, slot := 3, constantValue := 0 }, { name := "$VALUES", type := (.array (.object "com/example/graph_of_conflicts/graphofconflicts/api/IsolationLevel")), accessFlags := 4122, slot := 3, constantValue := 0 }]
  methods := #[]
  instanceTypes := #[(.object "java/lang/String"), .int, .int, (.object "java/lang/String")]
  staticTypes := #[(.object "com/example/graph_of_conflicts/graphofconflicts/api/IsolationLevel"), (.object "com/example/graph_of_conflicts/graphofconflicts/api/IsolationLevel"), (.object "com/example/graph_of_conflicts/graphofconflicts/api/IsolationLevel"), (.array (.object "com/example/graph_of_conflicts/graphofconflicts/api/IsolationLevel"))]
  resolved := Array.replicate 66 none
  statics := some 0 }

def pool8 : Array CpInfo := pool [(2, .class_ 4), (1, u "java/lang/CharSequence"), (42, .class_ 48), (0, u "java/lang/CharSequence$1CodePointIterator"), (10, .class_ 60), (0, u "java/lang/CharSequence$1CharIterator"), (5, .class_ 67), (0, u "java/lang/Object")] 63

/-- java/lang/CharSequence -/
def k8 : Class := { plain "java/lang/CharSequence" (some 0) with
  accessFlags := 1537
  interfaces := #[]
  cf := some (fileOf pool8 2 #[.nestMembers #[47, 59]] #[] 1537 66 #[] #[])
  fields := #[]
  methods := #[]
  instanceTypes := #[]
  staticTypes := #[]
  resolved := Array.replicate 131 none
  statics := none }

def pool9 : Array CpInfo := pool [(1, .class_ 2), (0, u "java/lang/constant/ConstantDesc"), (0, .class_ 4), (0, u "java/lang/Object")] 32

/-- java/lang/constant/ConstantDesc -/
def k9 : Class := { plain "java/lang/constant/ConstantDesc" (some 0) with
  accessFlags := 1537
  interfaces := #[]
  cf := some (fileOf pool9 1 #[] #[] 1537 3 #[] #[])
  fields := #[]
  methods := #[]
  instanceTypes := #[]
  staticTypes := #[]
  resolved := Array.replicate 37 none
  statics := none }

def pool10 : Array CpInfo := pool [(1, .methodref 2 3), (0, .class_ 4), (0, .nameAndType 5 6), (0, u "java/lang/Object"), (0, u "<init>"), (0, u "()V"), (2, .fieldref 10 11), (0, .class_ 12), (0, .nameAndType 13 14), (0, u "java/lang/String"), (0, u "value"), (0, u "[B"), (0, .fieldref 10 16), (0, .nameAndType 17 18), (0, u "coder"), (0, u "B"), (0, .fieldref 10 20), (0, .nameAndType 21 22), (0, u "hash"), (0, u "I"), (0, .fieldref 10 24), (0, .nameAndType 25 26), (0, u "hashIsZero"), (0, u "Z"), (0, .methodref 10 28), (0, .nameAndType 5 29), (0, u "([CIILjava/lang/Void;)V"), (8, .fieldref 10 39), (0, .nameAndType 40 26), (0, u "COMPACT_STRINGS"), (1, .class_ 44), (1, u "java/lang/StringUTF16"), (0, u "compress"), (1, .methodref 42 48), (0, .nameAndType 49 50), (0, u "coderFromArrayLen"), (0, u "([BI)B"), (56, .class_ 109), (1, u "java/lang/StringLatin1"), (32, u "()Z"), (34, .methodref 42 178), (0, .nameAndType 45 179), (0, u "([CII)[B"), (154, u "()I"), (157, .methodref 10 493), (0, .nameAndType 494 142), (0, u "isLatin1"), (80, .class_ 576), (0, u "java/lang/CharSequence"), (22, u "CASE_INSENSITIVE_ORDER"), (0, u "Ljava/util/Comparator;"), (27, .methodref 107 629), (0, .nameAndType 630 631), (0, u "hashCode"), (0, u "([B)I"), (378, u "([C)V"), (90, u "serialPersistentFields"), (0, u "[Ljava/io/ObjectStreamField;"), (0, .class_ 1104), (0, u "java/lang/String$CaseInsensitiveComparator"), (1, .class_ 1107), (0, u "java/io/Serializable"), (0, .class_ 1109), (0, u "java/lang/Comparable"), (0, .class_ 1111), (0, u "java/lang/constant/Constable"), (0, .class_ 1113), (0, u "java/lang/constant/ConstantDesc"), (2, u "serialVersionUID"), (0, u "J"), (3, u "REPL"), (0, u "C"), (2, u "LATIN1"), (1, u "UTF16")] 323

def k10m0 : Method := { name := "<init>", desc := "()V", sig := { parameters := [], returnType := none }, accessFlags := 1, code := none }
def k10c1 : Code := { maxStack := 5, maxLocals := 2, code := jdk_42_method_3_code, exceptionTable := #[], attributes := #[] }
def k10m1 : Method := { name := "<init>", desc := "([C)V", sig := { parameters := [(.array .char)], returnType := none }, accessFlags := 1, code := some k10c1 }
def k10c2 : Code := { maxStack := 2, maxLocals := 2, code := jdk_42_method_78_code, exceptionTable := #[], attributes := #[] }
def k10m2 : Method := { name := "hashCode", desc := "()I", sig := { parameters := [], returnType := some .int }, accessFlags := 1, code := some k10c2 }
def k10c3 : Code := { maxStack := 4, maxLocals := 6, code := jdk_42_method_149_code, exceptionTable := #[], attributes := #[] }
def k10m3 : Method := { name := "<init>", desc := "([CIILjava/lang/Void;)V", sig := { parameters := [(.array .char), .int, .int, (.object "java/lang/Void")], returnType := none }, accessFlags := 2, code := some k10c3 }
def k10c4 : Code := { maxStack := 1, maxLocals := 1, code := jdk_42_method_154_code, exceptionTable := #[], attributes := #[] }
def k10m4 : Method := { name := "isLatin1", desc := "()Z", sig := { parameters := [], returnType := some .boolean }, accessFlags := 0, code := some k10c4 }
/-- java/lang/String -/
def k10 : Class := { plain "java/lang/String" (some 0) with
  accessFlags := 49
  interfaces := #[5, 4, 8, 3, 9]
  cf := some (fileOf pool10 10 #[.nestMembers #[1103]] #[{ accessFlags := 1, nameIndex := 5, descriptorIndex := 6, attributes := #[] }, { accessFlags := 1, nameIndex := 5, descriptorIndex := 1010, attributes := #[] }, { accessFlags := 1, nameIndex := 630, descriptorIndex := 334, attributes := #[] }, { accessFlags := 2, nameIndex := 5, descriptorIndex := 29, attributes := #[] }, { accessFlags := 0, nameIndex := 494, descriptorIndex := 142, attributes := #[] }] 49 2 #[1106, 1108, 575, 1110, 1112] #[{ accessFlags := 18, nameIndex := 13, descriptorIndex := 14, attributes := #[] }, { accessFlags := 18, nameIndex := 17, descriptorIndex := 18, attributes := #[] }, { accessFlags := 2, nameIndex := 21, descriptorIndex := 22, attributes := #[] }, { accessFlags := 2, nameIndex := 25, descriptorIndex := 26, attributes := #[] }, { accessFlags := 26, nameIndex := 1116, descriptorIndex := 1117, attributes := #[] }, { accessFlags := 24, nameIndex := 40, descriptorIndex := 26, attributes := #[] }, { accessFlags := 26, nameIndex := 1101, descriptorIndex := 1102, attributes := #[] }, { accessFlags := 26, nameIndex := 1121, descriptorIndex := 1122, attributes := #[] }, { accessFlags := 25, nameIndex := 599, descriptorIndex := 600, attributes := #[] }, { accessFlags := 24, nameIndex := 1125, descriptorIndex := 18, attributes := #[] }, { accessFlags := 24, nameIndex := 1127, descriptorIndex := 18, attributes := #[] }])
  fields := #[{ name := "value", type := (.array .byte), accessFlags := 18, slot := 0, constantValue := 0 }, { name := "coder", type := .byte, accessFlags := 18, slot := 1, constantValue := 0 }, { name := "hash", type := .int, accessFlags := 2, slot := 2, constantValue := 0 }, { name := "hashIsZero", type := .boolean, accessFlags := 2, slot := 3, constantValue := 0 }, { name := "serialVersionUID", type := .long, accessFlags := 26, slot := 0, constantValue := 0 }, { name := "COMPACT_STRINGS", type := .boolean, accessFlags := 24, slot := 1, constantValue := 0 }, { name := "serialPersistentFields", type := (.array (.object "java/io/ObjectStreamField")), accessFlags := 26, slot := 2, constantValue := 0 }, { name := "REPL", type := .char, accessFlags := 26, slot := 3, constantValue := 0 }, { name := "CASE_INSENSITIVE_ORDER", type := (.object "java/util/Comparator"), accessFlags := 25, slot := 4, constantValue := 0 }, { name := "LATIN1", type := .byte, accessFlags := 24, slot := 5, constantValue := 0 }, { name := "UTF16", type := .byte, accessFlags := 24, slot := 6, constantValue := 0 }]
  methods := #[k10m0, k10m1, k10m2, k10m3, k10m4]
  instanceTypes := #[(.array .byte), .byte, .int, .boolean]
  staticTypes := #[.long, .boolean, (.array (.object "java/io/ObjectStreamField")), .char, (.object "java/util/Comparator"), .byte, .byte]
  resolved := Array.replicate 1451 none
  statics := some 1 }

def pool11 : Array CpInfo := pool [(6, .class_ 8), (1, u "java/lang/Object"), (0, u "<init>"), (0, u "()V"), (1, .class_ 14), (1, u "java/lang/StringUTF16"), (31, u "$assertionsDisabled"), (0, u "Z"), (13, u "HI_BYTE_SHIFT"), (0, u "I"), (2, u "LO_BYTE_SHIFT"), (49, .methodref 12 116), (0, .nameAndType 117 118), (0, u "compress"), (0, u "([CI[BII)I"), (3, u "([CII)[B"), (138, u "coderFromArrayLen"), (0, u "([BI)B"), (106, .class_ 371), (1, u "java/lang/StringUTF16$LinesSpliterator"), (58, u "MAX_LENGTH"), (196, .class_ 628), (0, u "java/lang/StringUTF16$CodePointsSpliterator"), (0, .class_ 630), (0, u "java/lang/StringUTF16$CharsSpliterator")] 4

def k11m0 : Method := { name := "<init>", desc := "()V", sig := { parameters := [], returnType := none }, accessFlags := 0, code := none }
def k11c1 : Code := { maxStack := 2, maxLocals := 2, code := jdk_52_method_15_code, exceptionTable := #[], attributes := #[] }
def k11m1 : Method := { name := "coderFromArrayLen", desc := "([BI)B", sig := { parameters := [(.array .byte), .int], returnType := some .byte }, accessFlags := 8, code := some k11c1 }
def k11c2 : Code := { maxStack := 5, maxLocals := 6, code := jdk_52_method_16_code, exceptionTable := #[], attributes := #[] }
def k11m2 : Method := { name := "compress", desc := "([CII)[B", sig := { parameters := [(.array .char), .int, .int], returnType := some (.array .byte) }, accessFlags := 9, code := some k11c2 }
def k11c3 : Code := { maxStack := 3, maxLocals := 7, code := jdk_52_method_21_code, exceptionTable := #[], attributes := #[] }
def k11m3 : Method := { name := "compress", desc := "([CI[BII)I", sig := { parameters := [(.array .char), .int, (.array .byte), .int, .int], returnType := some .int }, accessFlags := 9, code := some k11c3 }
/-- java/lang/StringUTF16 -/
def k11 : Class := { plain "java/lang/StringUTF16" (some 0) with
  accessFlags := 48
  interfaces := #[]
  cf := some (fileOf pool11 12 #[.nestMembers #[627, 629, 369]] #[{ accessFlags := 0, nameIndex := 9, descriptorIndex := 10, attributes := #[] }, { accessFlags := 8, nameIndex := 261, descriptorIndex := 262, attributes := #[] }, { accessFlags := 9, nameIndex := 117, descriptorIndex := 122, attributes := #[] }, { accessFlags := 9, nameIndex := 117, descriptorIndex := 118, attributes := #[] }] 48 6 #[] #[{ accessFlags := 26, nameIndex := 61, descriptorIndex := 62, attributes := #[] }, { accessFlags := 26, nameIndex := 65, descriptorIndex := 62, attributes := #[] }, { accessFlags := 24, nameIndex := 430, descriptorIndex := 62, attributes := #[] }, { accessFlags := 4120, nameIndex := 46, descriptorIndex := 47, attributes := #[] }])
  fields := #[{ name := "HI_BYTE_SHIFT", type := .int, accessFlags := 26, slot := 0, constantValue := 0 }, { name := "LO_BYTE_SHIFT", type := .int, accessFlags := 26, slot := 1, constantValue := 0 }, { name := "MAX_LENGTH", type := .int, accessFlags := 24, slot := 2, constantValue := 0 }, { name := "$assertionsDisabled", type := .boolean, accessFlags := 4120, slot := 3, constantValue := 0 }]
  methods := #[k11m0, k11m1, k11m2, k11m3]
  instanceTypes := #[]
  staticTypes := #[.int, .int, .int, .boolean]
  resolved := Array.replicate 635 none
  statics := none }

def pool12 : Array CpInfo := pool [(1, .class_ 2), (0, u "com/example/graph_of_conflicts/graphofconflicts/api/TransactionState"), (2, u "ACTIVE"), (0, u "Lcom/example/graph_of_conflicts/graphofconflicts/api/TransactionState;"), (2, u "COMMITTED"), (2, u "ROLLED_BACK"), (2, u "$VALUES"), (0, u "[Lcom/example/graph_of_conflicts/graphofconflicts/api/TransactionState;"), (6, .class_ 25), (1, u "java/lang/Enum")] 25

/-- com/example/graph_of_conflicts/graphofconflicts/api/TransactionState -/
def k12 : Class := { plain "com/example/graph_of_conflicts/graphofconflicts/api/TransactionState" (some 6) with
  accessFlags := 16433
  interfaces := #[]
  cf := some (fileOf pool12 1 #[] #[] 16433 23 #[] #[{ accessFlags := 16409, nameIndex := 5, descriptorIndex := 6, attributes := #[] }, { accessFlags := 16409, nameIndex := 9, descriptorIndex := 6, attributes := #[] }, { accessFlags := 16409, nameIndex := 12, descriptorIndex := 6, attributes := #[] }, { accessFlags := 4122, nameIndex := 15, descriptorIndex := 16, attributes := #[] }])
  fields := #[{ name := "ACTIVE", type := (.object "com/example/graph_of_conflicts/graphofconflicts/api/TransactionState"), accessFlags := 16409, slot := 0, constantValue := 0 }, { name := "COMMITTED", type := (.object "com/example/graph_of_conflicts/graphofconflicts/api/TransactionState"), accessFlags := 16409, slot := 1, constantValue := 0 }, { name := "ROLLED_BACK", type := (.object "com/example/graph_of_conflicts/graphofconflicts/api/TransactionState"), accessFlags := 16409, slot := 2, constantValue := 0 }, { name := "$VALUES", type := (.array (.object "com/example/graph_of_conflicts/graphofconflicts/api/TransactionState")), accessFlags := 4122, slot := 3, constantValue := 0 }]
  methods := #[]
  instanceTypes := #[(.object "java/lang/String"), .int, .int]
  staticTypes := #[(.object "com/example/graph_of_conflicts/graphofconflicts/api/TransactionState"), (.object "com/example/graph_of_conflicts/graphofconflicts/api/TransactionState"), (.object "com/example/graph_of_conflicts/graphofconflicts/api/TransactionState"), (.array (.object "com/example/graph_of_conflicts/graphofconflicts/api/TransactionState"))]
  resolved := Array.replicate 51 none
  statics := some 2 }

def pool13 : Array CpInfo := pool [(1, .methodref 2 3), (0, .class_ 4), (0, .nameAndType 5 6), (0, u "java/lang/Object"), (0, u "<init>"), (0, u "()V"), (0, .interfaceMethodref 8 9), (0, .class_ 10), (0, .nameAndType 11 12), (0, u "java/util/Set"), (0, u "of"), (0, u "()Ljava/util/Set;"), (0, .fieldref 14 15), (0, .class_ 16), (0, .nameAndType 17 18), (0, u "com/example/graph_of_conflicts/graphofconflicts/engine/KeysByTable"), (0, u "tables"), (0, u "Ljava/util/Set;"), (39, u "firstTable"), (0, u "Lcom/example/graph_of_conflicts/graphofconflicts/engine/Table;"), (2, u "firstKeys"), (0, u "Ljava/util/SortedSet;"), (8, u "keys"), (0, u "Ljava/util/Map;"), (26, u "NONE"), (0, u "Lcom/example/graph_of_conflicts/graphofconflicts/engine/KeysByTable;")] 43

def k13c0 : Code := { maxStack := 2, maxLocals := 1, code := prog_46_method_1_code, exceptionTable := #[], attributes := #[] }
def k13m0 : Method := { name := "<init>", desc := "()V", sig := { parameters := [], returnType := none }, accessFlags := 0, code := some k13c0 }
/-- com/example/graph_of_conflicts/graphofconflicts/engine/KeysByTable -/
def k13 : Class := { plain "com/example/graph_of_conflicts/graphofconflicts/engine/KeysByTable" (some 0) with
  accessFlags := 32
  interfaces := #[]
  cf := some (fileOf pool13 14 #[] #[{ accessFlags := 0, nameIndex := 5, descriptorIndex := 6, attributes := #[] }] 32 2 #[] #[{ accessFlags := 24, nameIndex := 100, descriptorIndex := 101, attributes := #[] }, { accessFlags := 2, nameIndex := 58, descriptorIndex := 59, attributes := #[] }, { accessFlags := 2, nameIndex := 62, descriptorIndex := 63, attributes := #[] }, { accessFlags := 2, nameIndex := 17, descriptorIndex := 18, attributes := #[] }, { accessFlags := 2, nameIndex := 72, descriptorIndex := 73, attributes := #[] }])
  fields := #[{ name := "NONE", type := (.object "com/example/graph_of_conflicts/graphofconflicts/engine/KeysByTable"), accessFlags := 24, slot := 0, constantValue := 0 }, { name := "firstTable", type := (.object "com/example/graph_of_conflicts/graphofconflicts/engine/Table"), accessFlags := 2, slot := 0, constantValue := 0 }, { name := "firstKeys", type := (.object "java/util/SortedSet"), accessFlags := 2, slot := 1, constantValue := 0 }, { name := "tables", type := (.object "java/util/Set"), accessFlags := 2, slot := 2, constantValue := 0 }, { name := "keys", type := (.object "java/util/Map"), accessFlags := 2, slot := 3, constantValue := 0 }]
  methods := #[k13m0]
  instanceTypes := #[(.object "com/example/graph_of_conflicts/graphofconflicts/engine/Table"), (.object "java/util/SortedSet"), (.object "java/util/Set"), (.object "java/util/Map")]
  staticTypes := #[(.object "com/example/graph_of_conflicts/graphofconflicts/engine/KeysByTable")]
  resolved := Array.replicate 145 none
  statics := none }

def pool14 : Array CpInfo := pool [(8, .class_ 10), (1, u "java/lang/Iterable"), (24, .class_ 36), (0, u "java/lang/Object")] 25

/-- java/lang/Iterable -/
def k14 : Class := { plain "java/lang/Iterable" (some 0) with
  accessFlags := 1537
  interfaces := #[]
  cf := some (fileOf pool14 8 #[] #[] 1537 35 #[] #[])
  fields := #[]
  methods := #[]
  instanceTypes := #[]
  staticTypes := #[]
  resolved := Array.replicate 62 none
  statics := none }

def pool15 : Array CpInfo := pool [(10, .class_ 12), (1, u "java/util/Collection"), (47, .class_ 61), (0, u "java/lang/Object"), (0, .class_ 63), (0, u "java/lang/Iterable")] 51

/-- java/util/Collection -/
def k15 : Class := { plain "java/util/Collection" (some 0) with
  accessFlags := 1537
  interfaces := #[14]
  cf := some (fileOf pool15 10 #[] #[] 1537 60 #[62] #[])
  fields := #[]
  methods := #[]
  instanceTypes := #[]
  staticTypes := #[]
  resolved := Array.replicate 115 none
  statics := none }

def pool16 : Array CpInfo := pool [(9, .fieldref 10 11), (0, .class_ 12), (0, .nameAndType 13 14), (0, u "java/util/ImmutableCollections"), (0, u "EMPTY_SET"), (0, u "Ljava/util/ImmutableCollections$SetN;"), (11, .class_ 27), (0, u "java/lang/Object"), (5, .class_ 34), (0, u "java/util/Set"), (1, .class_ 38), (1, u "java/util/Collection"), (4, u "of"), (0, u "()Ljava/util/Set;")] 99

def k16c0 : Code := { maxStack := 1, maxLocals := 0, code := jdk_96_method_17_code, exceptionTable := #[], attributes := #[] }
def k16m0 : Method := { name := "of", desc := "()Ljava/util/Set;", sig := { parameters := [], returnType := some (.object "java/util/Set") }, accessFlags := 9, code := some k16c0 }
/-- java/util/Set -/
def k16 : Class := { plain "java/util/Set" (some 0) with
  accessFlags := 1537
  interfaces := #[15]
  cf := some (fileOf pool16 33 #[] #[{ accessFlags := 9, nameIndex := 43, descriptorIndex := 44, attributes := #[] }] 1537 26 #[36] #[])
  fields := #[]
  methods := #[k16m0]
  instanceTypes := #[]
  staticTypes := #[]
  resolved := Array.replicate 144 none
  statics := none }

def pool17 : Array CpInfo := pool [(2, .class_ 4), (1, u "java/lang/Object"), (0, u "<init>"), (0, u "()V"), (3, .class_ 11), (0, u "java/util/ImmutableCollections$List12"), (0, .class_ 13), (0, u "java/util/ImmutableCollections$ListN"), (3, u "Z"), (29, .class_ 49), (1, u "java/util/ImmutableCollections"), (0, u "$assertionsDisabled"), (5, u "[Ljava/lang/Object;"), (5, u "EMPTY_LIST"), (0, u "Ljava/util/ImmutableCollections$ListN;"), (8, u "EMPTY_LIST_NULLS"), (22, u "SALT32L"), (0, u "J"), (2, u "REVERSE"), (6, u "archivedObjects"), (2, u "EMPTY"), (0, u "Ljava/lang/Object;"), (0, .class_ 112), (0, u "java/util/ImmutableCollections$SetN"), (5, u "EMPTY_SET"), (0, u "Ljava/util/ImmutableCollections$SetN;"), (0, .class_ 121), (0, u "java/util/ImmutableCollections$MapN"), (3, u "EMPTY_MAP"), (0, u "Ljava/util/ImmutableCollections$MapN;"), (4, u "EXPAND_FACTOR"), (0, u "I"), (36, .class_ 170), (0, u "java/util/ImmutableCollections$MapN$MapNIterator"), (0, .class_ 172), (0, u "java/util/ImmutableCollections$MapN$1"), (0, .class_ 174), (0, u "java/util/ImmutableCollections$Map1"), (0, .class_ 176), (0, u "java/util/ImmutableCollections$AbstractImmutableMap"), (0, .class_ 178), (0, u "java/util/ImmutableCollections$SetN$SetNIterator"), (0, .class_ 180), (0, u "java/util/ImmutableCollections$Set12"), (0, .class_ 182), (0, u "java/util/ImmutableCollections$Set12$1"), (0, .class_ 184), (0, u "java/util/ImmutableCollections$AbstractImmutableSet"), (0, .class_ 186), (0, u "java/util/ImmutableCollections$SubList"), (0, .class_ 188), (0, u "java/util/ImmutableCollections$ListItr"), (0, .class_ 190), (0, u "java/util/ImmutableCollections$AbstractImmutableList"), (0, .class_ 192), (0, u "java/util/ImmutableCollections$AbstractImmutableCollection"), (0, .class_ 194), (0, u "java/util/ImmutableCollections$Access"), (0, .class_ 196), (0, u "java/util/ImmutableCollections$Access$1")] 16

def k17m0 : Method := { name := "<init>", desc := "()V", sig := { parameters := [], returnType := none }, accessFlags := 2, code := none }
/-- java/util/ImmutableCollections -/
def k17 : Class := { plain "java/util/ImmutableCollections" (some 0) with
  accessFlags := 32
  interfaces := #[]
  cf := some (fileOf pool17 47 #[.nestMembers #[120, 169, 171, 173, 175, 111, 177, 179, 181, 183, 12, 10, 185, 187, 189, 191, 193, 195]] #[{ accessFlags := 2, nameIndex := 5, descriptorIndex := 6, attributes := #[] }] 32 2 #[] #[{ accessFlags := 26, nameIndex := 95, descriptorIndex := 96, attributes := #[] }, { accessFlags := 26, nameIndex := 99, descriptorIndex := 17, attributes := #[] }, { accessFlags := 10, nameIndex := 106, descriptorIndex := 56, attributes := #[] }, { accessFlags := 26, nameIndex := 109, descriptorIndex := 110, attributes := #[] }, { accessFlags := 24, nameIndex := 62, descriptorIndex := 63, attributes := #[] }, { accessFlags := 24, nameIndex := 72, descriptorIndex := 63, attributes := #[] }, { accessFlags := 24, nameIndex := 118, descriptorIndex := 119, attributes := #[] }, { accessFlags := 24, nameIndex := 125, descriptorIndex := 126, attributes := #[] }, { accessFlags := 24, nameIndex := 131, descriptorIndex := 132, attributes := #[] }, { accessFlags := 4120, nameIndex := 50, descriptorIndex := 17, attributes := #[] }])
  fields := #[{ name := "SALT32L", type := .long, accessFlags := 26, slot := 0, constantValue := 0 }, { name := "REVERSE", type := .boolean, accessFlags := 26, slot := 1, constantValue := 0 }, { name := "archivedObjects", type := (.array (.object "java/lang/Object")), accessFlags := 10, slot := 2, constantValue := 0 }, { name := "EMPTY", type := (.object "java/lang/Object"), accessFlags := 26, slot := 3, constantValue := 0 }, { name := "EMPTY_LIST", type := (.object "java/util/ImmutableCollections$ListN"), accessFlags := 24, slot := 4, constantValue := 0 }, { name := "EMPTY_LIST_NULLS", type := (.object "java/util/ImmutableCollections$ListN"), accessFlags := 24, slot := 5, constantValue := 0 }, { name := "EMPTY_SET", type := (.object "java/util/ImmutableCollections$SetN"), accessFlags := 24, slot := 6, constantValue := 0 }, { name := "EMPTY_MAP", type := (.object "java/util/ImmutableCollections$MapN"), accessFlags := 24, slot := 7, constantValue := 0 }, { name := "EXPAND_FACTOR", type := .int, accessFlags := 24, slot := 8, constantValue := 0 }, { name := "$assertionsDisabled", type := .boolean, accessFlags := 4120, slot := 9, constantValue := 0 }]
  methods := #[k17m0]
  instanceTypes := #[]
  staticTypes := #[.long, .boolean, (.array (.object "java/lang/Object")), (.object "java/lang/Object"), (.object "java/util/ImmutableCollections$ListN"), (.object "java/util/ImmutableCollections$ListN"), (.object "java/util/ImmutableCollections$SetN"), (.object "java/util/ImmutableCollections$MapN"), .int, .boolean]
  resolved := Array.replicate 213 none
  statics := some 3 }

def pool18 : Array CpInfo := pool [(1, .methodref 2 3), (0, .class_ 4), (0, .nameAndType 5 6), (0, u "java/lang/Object"), (0, u "<init>"), (0, u "()V"), (1, .class_ 10), (1, u "java/util/AbstractCollection"), (66, .class_ 78), (0, u "java/util/Collection")] 81

def k18c0 : Code := { maxStack := 1, maxLocals := 1, code := jdk_22_method_1_code, exceptionTable := #[], attributes := #[] }
def k18m0 : Method := { name := "<init>", desc := "()V", sig := { parameters := [], returnType := none }, accessFlags := 4, code := some k18c0 }
/-- java/util/AbstractCollection -/
def k18 : Class := { plain "java/util/AbstractCollection" (some 0) with
  accessFlags := 1057
  interfaces := #[15]
  cf := some (fileOf pool18 8 #[] #[{ accessFlags := 4, nameIndex := 5, descriptorIndex := 6, attributes := #[] }] 1057 2 #[77] #[])
  fields := #[]
  methods := #[k18m0]
  instanceTypes := #[]
  staticTypes := #[]
  resolved := Array.replicate 160 none
  statics := none }

def pool19 : Array CpInfo := pool [(1, .methodref 2 3), (0, .class_ 4), (0, .nameAndType 5 6), (0, u "java/util/AbstractCollection"), (0, u "<init>"), (0, u "()V"), (0, .class_ 8), (0, u "java/util/Set"), (7, .class_ 17), (0, u "java/util/AbstractSet")] 78

def k19c0 : Code := { maxStack := 1, maxLocals := 1, code := jdk_91_method_1_code, exceptionTable := #[], attributes := #[] }
def k19m0 : Method := { name := "<init>", desc := "()V", sig := { parameters := [], returnType := none }, accessFlags := 4, code := some k19c0 }
/-- java/util/AbstractSet -/
def k19 : Class := { plain "java/util/AbstractSet" (some 18) with
  accessFlags := 1057
  interfaces := #[16]
  cf := some (fileOf pool19 16 #[] #[{ accessFlags := 4, nameIndex := 5, descriptorIndex := 6, attributes := #[] }] 1057 2 #[7] #[])
  fields := #[]
  methods := #[k19m0]
  instanceTypes := #[]
  staticTypes := #[]
  resolved := Array.replicate 96 none
  statics := none }

def pool20 : Array CpInfo := pool [(1, .class_ 2), (0, u "java/lang/Cloneable"), (0, .class_ 4), (0, u "java/lang/Object")] 2

/-- java/lang/Cloneable -/
def k20 : Class := { plain "java/lang/Cloneable" (some 0) with
  accessFlags := 1537
  interfaces := #[]
  cf := some (fileOf pool20 1 #[] #[] 1537 3 #[] #[])
  fields := #[]
  methods := #[]
  instanceTypes := #[]
  staticTypes := #[]
  resolved := Array.replicate 7 none
  statics := none }

def pool21 : Array CpInfo := pool [(1, .methodref 2 3), (0, .class_ 4), (0, .nameAndType 5 6), (0, u "java/util/AbstractSet"), (0, u "<init>"), (0, u "()V"), (3, .fieldref 11 12), (0, .class_ 13), (0, .nameAndType 14 15), (0, u "java/util/HashSet"), (0, u "map"), (0, u "Ljava/util/HashMap;"), (21, .nameAndType 5 38), (0, u "(IF)V"), (3, .class_ 43), (0, u "java/util/LinkedHashMap"), (0, .methodref 42 37), (5, .class_ 52), (1, u "java/util/Set"), (13, u "PRESENT"), (0, u "Ljava/lang/Object;"), (158, .class_ 227), (0, u "java/lang/Cloneable"), (0, .class_ 229), (0, u "java/io/Serializable"), (0, u "serialVersionUID"), (0, u "J"), (20, u "(IFZ)V")] 50

def k21m0 : Method := { name := "<init>", desc := "()V", sig := { parameters := [], returnType := none }, accessFlags := 1, code := none }
def k21c1 : Code := { maxStack := 5, maxLocals := 4, code := jdk_93_method_5_code, exceptionTable := #[], attributes := #[] }
def k21m1 : Method := { name := "<init>", desc := "(IFZ)V", sig := { parameters := [.int, .float, .boolean], returnType := none }, accessFlags := 0, code := some k21c1 }
/-- java/util/HashSet -/
def k21 : Class := { plain "java/util/HashSet" (some 19) with
  accessFlags := 33
  interfaces := #[16, 20, 5]
  cf := some (fileOf pool21 11 #[] #[{ accessFlags := 1, nameIndex := 5, descriptorIndex := 6, attributes := #[] }, { accessFlags := 0, nameIndex := 5, descriptorIndex := 252, attributes := #[] }] 33 2 #[50, 226, 228] #[{ accessFlags := 24, nameIndex := 230, descriptorIndex := 231, attributes := #[] }, { accessFlags := 128, nameIndex := 14, descriptorIndex := 15, attributes := #[] }, { accessFlags := 24, nameIndex := 66, descriptorIndex := 67, attributes := #[] }])
  fields := #[{ name := "serialVersionUID", type := .long, accessFlags := 24, slot := 0, constantValue := 0 }, { name := "map", type := (.object "java/util/HashMap"), accessFlags := 128, slot := 0, constantValue := 0 }, { name := "PRESENT", type := (.object "java/lang/Object"), accessFlags := 24, slot := 1, constantValue := 0 }]
  methods := #[k21m0, k21m1]
  instanceTypes := #[(.object "java/util/HashMap")]
  staticTypes := #[.long, (.object "java/lang/Object")]
  resolved := Array.replicate 303 none
  statics := none }

def pool22 : Array CpInfo := pool [(8, .class_ 10), (1, u "java/util/SequencedCollection"), (15, .class_ 27), (0, u "java/lang/Object"), (0, .class_ 29), (0, u "java/util/Collection")] 27

/-- java/util/SequencedCollection -/
def k22 : Class := { plain "java/util/SequencedCollection" (some 0) with
  accessFlags := 1537
  interfaces := #[15]
  cf := some (fileOf pool22 8 #[] #[] 1537 26 #[28] #[])
  fields := #[]
  methods := #[]
  instanceTypes := #[]
  staticTypes := #[]
  resolved := Array.replicate 57 none
  statics := none }

def pool23 : Array CpInfo := pool [(2, .class_ 4), (1, u "java/util/SequencedSet"), (2, .class_ 8), (0, u "java/lang/Object"), (0, .class_ 10), (0, u "java/util/SequencedCollection"), (0, .class_ 12), (0, u "java/util/Set")] 13

/-- java/util/SequencedSet -/
def k23 : Class := { plain "java/util/SequencedSet" (some 0) with
  accessFlags := 1537
  interfaces := #[22, 16]
  cf := some (fileOf pool23 2 #[] #[] 1537 7 #[9, 11] #[])
  fields := #[]
  methods := #[]
  instanceTypes := #[]
  staticTypes := #[]
  resolved := Array.replicate 26 none
  statics := none }

def pool24 : Array CpInfo := pool [(1, .methodref 2 3), (0, .class_ 4), (0, .nameAndType 5 6), (0, u "java/util/HashSet"), (0, u "<init>"), (0, u "(IFZ)V"), (0, .float 1061158912), (19, .class_ 29), (1, u "java/util/LinkedHashSet"), (16, u "()V"), (44, .class_ 93), (1, u "java/util/SequencedSet"), (11, .class_ 106), (0, u "java/util/LinkedHashSet$1ReverseLinkedHashSetView"), (6, .class_ 114), (0, u "java/lang/Cloneable"), (0, .class_ 116), (0, u "java/io/Serializable"), (0, u "serialVersionUID"), (0, u "J")] 44

def k24c0 : Code := { maxStack := 4, maxLocals := 1, code := jdk_2620_method_3_code, exceptionTable := #[], attributes := #[] }
def k24m0 : Method := { name := "<init>", desc := "()V", sig := { parameters := [], returnType := none }, accessFlags := 1, code := some k24c0 }
/-- java/util/LinkedHashSet -/
def k24 : Class := { plain "java/util/LinkedHashSet" (some 21) with
  accessFlags := 33
  interfaces := #[23, 20, 5]
  cf := some (fileOf pool24 27 #[.nestMembers #[105]] #[{ accessFlags := 1, nameIndex := 5, descriptorIndex := 46, attributes := #[] }] 33 2 #[91, 113, 115] #[{ accessFlags := 26, nameIndex := 117, descriptorIndex := 118, attributes := #[] }])
  fields := #[{ name := "serialVersionUID", type := .long, accessFlags := 26, slot := 0, constantValue := 0 }]
  methods := #[k24m0]
  instanceTypes := #[(.object "java/util/HashMap")]
  staticTypes := #[.long]
  resolved := Array.replicate 163 none
  statics := none }

def pool25 : Array CpInfo := pool [(2, .class_ 4), (1, u "java/util/Map"), (31, .class_ 37), (0, u "java/util/Map$Entry"), (55, .class_ 94), (0, u "java/lang/Object")] 168

/-- java/util/Map -/
def k25 : Class := { plain "java/util/Map" (some 0) with
  accessFlags := 1537
  interfaces := #[]
  cf := some (fileOf pool25 2 #[.nestMembers #[36]] #[] 1537 93 #[] #[])
  fields := #[]
  methods := #[]
  instanceTypes := #[]
  staticTypes := #[]
  resolved := Array.replicate 263 none
  statics := none }

def pool26 : Array CpInfo := pool [(1, .methodref 2 3), (0, .class_ 4), (0, .nameAndType 5 6), (0, u "java/lang/Object"), (0, u "<init>"), (0, u "()V"), (1, .class_ 10), (1, u "java/util/AbstractMap"), (42, .class_ 54), (0, u "java/util/Map"), (9, u "keySet"), (0, u "Ljava/util/Set;"), (0, .class_ 67), (0, u "java/util/AbstractMap$1"), (5, u "values"), (0, u "Ljava/util/Collection;"), (0, .class_ 76), (0, u "java/util/AbstractMap$2"), (104, .class_ 182), (0, u "java/util/AbstractMap$ViewCollection"), (0, .class_ 184), (0, u "java/util/AbstractMap$SimpleImmutableEntry"), (0, .class_ 186), (0, u "java/util/AbstractMap$SimpleEntry"), (0, .class_ 188), (0, u "java/util/AbstractMap$2$1"), (0, .class_ 190), (0, u "java/util/AbstractMap$1$1")] 5

def k26c0 : Code := { maxStack := 1, maxLocals := 1, code := jdk_71_method_1_code, exceptionTable := #[], attributes := #[] }
def k26m0 : Method := { name := "<init>", desc := "()V", sig := { parameters := [], returnType := none }, accessFlags := 4, code := some k26c0 }
/-- java/util/AbstractMap -/
def k26 : Class := { plain "java/util/AbstractMap" (some 0) with
  accessFlags := 1057
  interfaces := #[25]
  cf := some (fileOf pool26 8 #[.nestMembers #[181, 183, 185, 75, 187, 66, 189]] #[{ accessFlags := 4, nameIndex := 5, descriptorIndex := 6, attributes := #[] }] 1057 2 #[53] #[{ accessFlags := 128, nameIndex := 64, descriptorIndex := 65, attributes := #[] }, { accessFlags := 128, nameIndex := 73, descriptorIndex := 74, attributes := #[] }])
  fields := #[{ name := "keySet", type := (.object "java/util/Set"), accessFlags := 128, slot := 0, constantValue := 0 }, { name := "values", type := (.object "java/util/Collection"), accessFlags := 128, slot := 1, constantValue := 0 }]
  methods := #[k26m0]
  instanceTypes := #[(.object "java/util/Set"), (.object "java/util/Collection")]
  staticTypes := #[]
  resolved := Array.replicate 196 none
  statics := none }

def pool27 : Array CpInfo := pool [(34, .methodref 35 36), (0, .class_ 37), (0, .nameAndType 38 39), (0, u "java/lang/Integer"), (0, u "numberOfLeadingZeros"), (0, u "(I)I"), (0, .class_ 41), (0, u "java/util/HashMap"), (0, .integer 1073741824), (0, .methodref 44 45), (0, .class_ 46), (0, .nameAndType 47 48), (0, u "java/util/AbstractMap"), (0, u "<init>"), (0, u "()V"), (21, .methodref 71 72), (0, .class_ 73), (0, .nameAndType 74 75), (0, u "java/lang/Float"), (0, u "isNaN"), (0, u "(F)Z"), (5, .fieldref 40 82), (0, .nameAndType 83 84), (0, u "loadFactor"), (0, u "F"), (0, .methodref 40 86), (0, .nameAndType 87 39), (0, u "tableSizeFor"), (0, .fieldref 40 89), (0, .nameAndType 90 91), (0, u "threshold"), (0, u "I"), (0, .float 1061158912), (2, u "(IF)V"), (5, .class_ 103), (1, u "java/util/Map"), (0, u "size"), (2, u "table"), (0, u "[Ljava/util/HashMap$Node;"), (14, u "entrySet"), (39, .class_ 165), (1, u "java/util/HashMap$Node"), (14, .class_ 181), (0, u "java/util/HashMap$TreeNode"), (22, u "modCount"), (37, u "Ljava/util/Set;"), (0, .class_ 244), (0, u "java/util/HashMap$KeySet"), (18, .class_ 264), (0, u "java/util/HashMap$Values"), (3, .class_ 269), (0, u "java/util/HashMap$EntrySet"), (76, .class_ 348), (1, u "java/util/HashMap$UnsafeHolder"), (43, .class_ 393), (0, u "java/lang/Cloneable"), (0, .class_ 395), (0, u "java/io/Serializable"), (0, u "serialVersionUID"), (0, u "J"), (3, u "DEFAULT_INITIAL_CAPACITY"), (1, u "MAXIMUM_CAPACITY"), (0, u "DEFAULT_LOAD_FACTOR"), (0, u "TREEIFY_THRESHOLD"), (1, u "UNTREEIFY_THRESHOLD"), (1, u "MIN_TREEIFY_CAPACITY"), (186, .class_ 597), (0, u "java/util/HashMap$EntrySpliterator"), (0, .class_ 599), (0, u "java/util/HashMap$ValueSpliterator"), (0, .class_ 601), (0, u "java/util/HashMap$KeySpliterator"), (0, .class_ 603), (0, u "java/util/HashMap$HashMapSpliterator"), (0, .class_ 605), (0, u "java/util/HashMap$EntryIterator"), (0, .class_ 607), (0, u "java/util/HashMap$ValueIterator"), (0, .class_ 609), (0, u "java/util/HashMap$KeyIterator"), (0, .class_ 611), (0, u "java/util/HashMap$HashIterator")] 17

def k27c0 : Code := { maxStack := 3, maxLocals := 2, code := jdk_69_method_4_code, exceptionTable := #[], attributes := #[] }
def k27m0 : Method := { name := "tableSizeFor", desc := "(I)I", sig := { parameters := [.int], returnType := some .int }, accessFlags := 24, code := some k27c0 }
def k27c1 : Code := { maxStack := 4, maxLocals := 3, code := jdk_69_method_5_code, exceptionTable := #[], attributes := #[] }
def k27m1 : Method := { name := "<init>", desc := "(IF)V", sig := { parameters := [.int, .float], returnType := none }, accessFlags := 1, code := some k27c1 }
def k27c2 : Code := { maxStack := 2, maxLocals := 1, code := jdk_69_method_7_code, exceptionTable := #[], attributes := #[] }
def k27m2 : Method := { name := "<init>", desc := "()V", sig := { parameters := [], returnType := none }, accessFlags := 1, code := some k27c2 }
/-- java/util/HashMap -/
def k27 : Class := { plain "java/util/HashMap" (some 26) with
  accessFlags := 33
  interfaces := #[25, 20, 5]
  cf := some (fileOf pool27 40 #[.nestMembers #[180, 596, 598, 600, 602, 604, 606, 608, 610, 346, 268, 263, 243, 163]] #[{ accessFlags := 24, nameIndex := 87, descriptorIndex := 39, attributes := #[] }, { accessFlags := 1, nameIndex := 47, descriptorIndex := 95, attributes := #[] }, { accessFlags := 1, nameIndex := 47, descriptorIndex := 48, attributes := #[] }] 33 44 #[101, 392, 394] #[{ accessFlags := 26, nameIndex := 396, descriptorIndex := 397, attributes := #[] }, { accessFlags := 24, nameIndex := 401, descriptorIndex := 91, attributes := #[] }, { accessFlags := 24, nameIndex := 403, descriptorIndex := 91, attributes := #[] }, { accessFlags := 24, nameIndex := 404, descriptorIndex := 84, attributes := #[] }, { accessFlags := 24, nameIndex := 405, descriptorIndex := 91, attributes := #[] }, { accessFlags := 24, nameIndex := 407, descriptorIndex := 91, attributes := #[] }, { accessFlags := 24, nameIndex := 409, descriptorIndex := 91, attributes := #[] }, { accessFlags := 128, nameIndex := 107, descriptorIndex := 108, attributes := #[] }, { accessFlags := 128, nameIndex := 123, descriptorIndex := 242, attributes := #[] }, { accessFlags := 128, nameIndex := 104, descriptorIndex := 91, attributes := #[] }, { accessFlags := 128, nameIndex := 204, descriptorIndex := 91, attributes := #[] }, { accessFlags := 0, nameIndex := 90, descriptorIndex := 91, attributes := #[] }, { accessFlags := 16, nameIndex := 83, descriptorIndex := 84, attributes := #[] }])
  fields := #[{ name := "serialVersionUID", type := .long, accessFlags := 26, slot := 0, constantValue := 0 }, { name := "DEFAULT_INITIAL_CAPACITY", type := .int, accessFlags := 24, slot := 1, constantValue := 0 }, { name := "MAXIMUM_CAPACITY", type := .int, accessFlags := 24, slot := 2, constantValue := 0 }, { name := "DEFAULT_LOAD_FACTOR", type := .float, accessFlags := 24, slot := 3, constantValue := 0 }, { name := "TREEIFY_THRESHOLD", type := .int, accessFlags := 24, slot := 4, constantValue := 0 }, { name := "UNTREEIFY_THRESHOLD", type := .int, accessFlags := 24, slot := 5, constantValue := 0 }, { name := "MIN_TREEIFY_CAPACITY", type := .int, accessFlags := 24, slot := 6, constantValue := 0 }, { name := "table", type := (.array (.object "java/util/HashMap$Node")), accessFlags := 128, slot := 2, constantValue := 0 }, { name := "entrySet", type := (.object "java/util/Set"), accessFlags := 128, slot := 3, constantValue := 0 }, { name := "size", type := .int, accessFlags := 128, slot := 4, constantValue := 0 }, { name := "modCount", type := .int, accessFlags := 128, slot := 5, constantValue := 0 }, { name := "threshold", type := .int, accessFlags := 0, slot := 6, constantValue := 0 }, { name := "loadFactor", type := .float, accessFlags := 16, slot := 7, constantValue := 0 }]
  methods := #[k27m0, k27m1, k27m2]
  instanceTypes := #[(.object "java/util/Set"), (.object "java/util/Collection"), (.array (.object "java/util/HashMap$Node")), (.object "java/util/Set"), .int, .int, .int, .float]
  staticTypes := #[.long, .int, .int, .float, .int, .int, .int]
  resolved := Array.replicate 629 none
  statics := none }

def pool28 : Array CpInfo := pool [(2, .class_ 4), (1, u "java/util/SequencedMap"), (38, .class_ 44), (0, u "java/util/SequencedMap$1SeqKeySet"), (3, .class_ 49), (0, u "java/util/SequencedMap$1SeqValues"), (1, .class_ 52), (0, u "java/util/SequencedMap$1SeqEntrySet"), (1, .class_ 55), (0, u "java/lang/Object"), (0, .class_ 57), (0, u "java/util/Map")] 48

/-- java/util/SequencedMap -/
def k28 : Class := { plain "java/util/SequencedMap" (some 0) with
  accessFlags := 1537
  interfaces := #[25]
  cf := some (fileOf pool28 2 #[.nestMembers #[51, 48, 43]] #[] 1537 54 #[56] #[])
  fields := #[]
  methods := #[]
  instanceTypes := #[]
  staticTypes := #[]
  resolved := Array.replicate 106 none
  statics := none }

def pool29 : Array CpInfo := pool [(1, .fieldref 2 3), (0, .class_ 4), (0, .nameAndType 5 6), (0, u "java/util/LinkedHashMap"), (0, u "putMode"), (0, u "I"), (2, u "head"), (0, u "Ljava/util/LinkedHashMap$Entry;"), (2, u "tail"), (1, .class_ 17), (1, u "java/util/LinkedHashMap$Entry"), (5, .class_ 25), (1, u "java/util/HashMap"), (1, u "()V"), (2, u "<init>"), (33, .fieldref 2 65), (0, .nameAndType 66 67), (0, u "accessOrder"), (0, u "Z"), (13, .methodref 23 82), (0, .nameAndType 30 83), (0, u "(IF)V"), (3, .methodref 23 88), (0, .nameAndType 30 27), (32, .class_ 122), (0, u "java/util/LinkedHashMap$LinkedKeySet"), (20, .class_ 144), (0, u "java/util/LinkedHashMap$LinkedValues"), (9, .class_ 155), (0, u "java/util/LinkedHashMap$LinkedEntrySet"), (44, .class_ 201), (0, u "java/util/LinkedHashMap$ReversedLinkedHashMapView"), (3, .class_ 206), (0, u "java/util/SequencedMap"), (0, u "serialVersionUID"), (0, u "J"), (5, u "PUT_NORM"), (1, u "PUT_FIRST"), (1, u "PUT_LAST"), (143, .class_ 363), (0, u "java/util/LinkedHashMap$LinkedEntryIterator"), (0, .class_ 365), (0, u "java/util/LinkedHashMap$LinkedValueIterator"), (0, .class_ 367), (0, u "java/util/LinkedHashMap$LinkedKeyIterator"), (0, .class_ 369), (0, u "java/util/LinkedHashMap$LinkedHashIterator")] 16

def k29c0 : Code := { maxStack := 3, maxLocals := 3, code := jdk_94_method_14_code, exceptionTable := #[], attributes := #[] }
def k29m0 : Method := { name := "<init>", desc := "(IF)V", sig := { parameters := [.int, .float], returnType := none }, accessFlags := 1, code := some k29c0 }
def k29c1 : Code := { maxStack := 2, maxLocals := 1, code := jdk_94_method_16_code, exceptionTable := #[], attributes := #[] }
def k29m1 : Method := { name := "<init>", desc := "()V", sig := { parameters := [], returnType := none }, accessFlags := 1, code := some k29c1 }
/-- java/util/LinkedHashMap -/
def k29 : Class := { plain "java/util/LinkedHashMap" (some 27) with
  accessFlags := 33
  interfaces := #[28]
  cf := some (fileOf pool29 2 #[.nestMembers #[200, 362, 364, 366, 368, 154, 143, 121, 15]] #[{ accessFlags := 1, nameIndex := 30, descriptorIndex := 83, attributes := #[] }, { accessFlags := 1, nameIndex := 30, descriptorIndex := 27, attributes := #[] }] 33 23 #[205] #[{ accessFlags := 26, nameIndex := 207, descriptorIndex := 208, attributes := #[] }, { accessFlags := 128, nameIndex := 9, descriptorIndex := 10, attributes := #[] }, { accessFlags := 128, nameIndex := 13, descriptorIndex := 10, attributes := #[] }, { accessFlags := 16, nameIndex := 66, descriptorIndex := 67, attributes := #[] }, { accessFlags := 24, nameIndex := 214, descriptorIndex := 6, attributes := #[] }, { accessFlags := 24, nameIndex := 216, descriptorIndex := 6, attributes := #[] }, { accessFlags := 24, nameIndex := 218, descriptorIndex := 6, attributes := #[] }, { accessFlags := 128, nameIndex := 5, descriptorIndex := 6, attributes := #[] }])
  fields := #[{ name := "serialVersionUID", type := .long, accessFlags := 26, slot := 0, constantValue := 0 }, { name := "head", type := (.object "java/util/LinkedHashMap$Entry"), accessFlags := 128, slot := 8, constantValue := 0 }, { name := "tail", type := (.object "java/util/LinkedHashMap$Entry"), accessFlags := 128, slot := 9, constantValue := 0 }, { name := "accessOrder", type := .boolean, accessFlags := 16, slot := 10, constantValue := 0 }, { name := "PUT_NORM", type := .int, accessFlags := 24, slot := 1, constantValue := 0 }, { name := "PUT_FIRST", type := .int, accessFlags := 24, slot := 2, constantValue := 0 }, { name := "PUT_LAST", type := .int, accessFlags := 24, slot := 3, constantValue := 0 }, { name := "putMode", type := .int, accessFlags := 128, slot := 11, constantValue := 0 }]
  methods := #[k29m0, k29m1]
  instanceTypes := #[(.object "java/util/Set"), (.object "java/util/Collection"), (.array (.object "java/util/HashMap$Node")), (.object "java/util/Set"), .int, .int, .int, .float, (.object "java/util/LinkedHashMap$Entry"), (.object "java/util/LinkedHashMap$Entry"), .boolean, .int]
  staticTypes := #[.long, .int, .int, .int]
  resolved := Array.replicate 386 none
  statics := none }

def pool30 : Array CpInfo := pool [(2, .class_ 4), (1, u "java/lang/Object"), (0, u "<init>"), (0, u "()V"), (1, .class_ 10), (1, u "java/lang/Number"), (2, .class_ 14), (0, u "java/io/Serializable"), (0, u "serialVersionUID"), (0, u "J")] 20

def k30m0 : Method := { name := "<init>", desc := "()V", sig := { parameters := [], returnType := none }, accessFlags := 1, code := none }
/-- java/lang/Number -/
def k30 : Class := { plain "java/lang/Number" (some 0) with
  accessFlags := 1057
  interfaces := #[5]
  cf := some (fileOf pool30 8 #[] #[{ accessFlags := 1, nameIndex := 5, descriptorIndex := 6, attributes := #[] }] 1057 2 #[13] #[{ accessFlags := 26, nameIndex := 15, descriptorIndex := 16, attributes := #[] }])
  fields := #[{ name := "serialVersionUID", type := .long, accessFlags := 26, slot := 0, constantValue := 0 }]
  methods := #[k30m0]
  instanceTypes := #[]
  staticTypes := #[.long]
  resolved := Array.replicate 37 none
  statics := none }

def pool31 : Array CpInfo := pool [(1, .class_ 2), (0, u "java/lang/Float"), (48, .class_ 53), (1, u "java/lang/Number"), (3, u "value"), (0, u "F"), (2, u "isNaN"), (0, u "(F)Z"), (28, u "$assertionsDisabled"), (0, u "Z"), (52, u "TYPE"), (0, u "Ljava/lang/Class;"), (0, .class_ 148), (0, u "java/lang/Comparable"), (0, .class_ 150), (0, u "java/lang/constant/Constable"), (0, .class_ 152), (0, u "java/lang/constant/ConstantDesc"), (0, u "POSITIVE_INFINITY"), (1, u "NEGATIVE_INFINITY"), (1, u "NaN"), (1, u "MAX_VALUE"), (0, u "MIN_NORMAL"), (0, u "MIN_VALUE"), (1, u "SIZE"), (0, u "I"), (1, u "PRECISION"), (1, u "MAX_EXPONENT"), (1, u "MIN_EXPONENT"), (1, u "BYTES"), (3, u "serialVersionUID"), (0, u "J")] 101

def k31c0 : Code := { maxStack := 2, maxLocals := 1, code := jdk_118_method_6_code, exceptionTable := #[], attributes := #[] }
def k31m0 : Method := { name := "isNaN", desc := "(F)Z", sig := { parameters := [.float], returnType := some .boolean }, accessFlags := 9, code := some k31c0 }
/-- java/lang/Float -/
def k31 : Class := { plain "java/lang/Float" (some 30) with
  accessFlags := 49
  interfaces := #[4, 3, 9]
  cf := some (fileOf pool31 1 #[] #[{ accessFlags := 9, nameIndex := 61, descriptorIndex := 62, attributes := #[] }] 49 51 #[147, 149, 151] #[{ accessFlags := 25, nameIndex := 153, descriptorIndex := 58, attributes := #[] }, { accessFlags := 25, nameIndex := 155, descriptorIndex := 58, attributes := #[] }, { accessFlags := 25, nameIndex := 157, descriptorIndex := 58, attributes := #[] }, { accessFlags := 25, nameIndex := 159, descriptorIndex := 58, attributes := #[] }, { accessFlags := 25, nameIndex := 160, descriptorIndex := 58, attributes := #[] }, { accessFlags := 25, nameIndex := 161, descriptorIndex := 58, attributes := #[] }, { accessFlags := 25, nameIndex := 163, descriptorIndex := 164, attributes := #[] }, { accessFlags := 25, nameIndex := 166, descriptorIndex := 164, attributes := #[] }, { accessFlags := 25, nameIndex := 168, descriptorIndex := 164, attributes := #[] }, { accessFlags := 25, nameIndex := 170, descriptorIndex := 164, attributes := #[] }, { accessFlags := 25, nameIndex := 172, descriptorIndex := 164, attributes := #[] }, { accessFlags := 25, nameIndex := 145, descriptorIndex := 146, attributes := #[] }, { accessFlags := 18, nameIndex := 57, descriptorIndex := 58, attributes := #[] }, { accessFlags := 26, nameIndex := 176, descriptorIndex := 177, attributes := #[] }, { accessFlags := 4120, nameIndex := 91, descriptorIndex := 92, attributes := #[] }])
  fields := #[{ name := "POSITIVE_INFINITY", type := .float, accessFlags := 25, slot := 0, constantValue := 0 }, { name := "NEGATIVE_INFINITY", type := .float, accessFlags := 25, slot := 1, constantValue := 0 }, { name := "NaN", type := .float, accessFlags := 25, slot := 2, constantValue := 0 }, { name := "MAX_VALUE", type := .float, accessFlags := 25, slot := 3, constantValue := 0 }, { name := "MIN_NORMAL", type := .float, accessFlags := 25, slot := 4, constantValue := 0 }, { name := "MIN_VALUE", type := .float, accessFlags := 25, slot := 5, constantValue := 0 }, { name := "SIZE", type := .int, accessFlags := 25, slot := 6, constantValue := 0 }, { name := "PRECISION", type := .int, accessFlags := 25, slot := 7, constantValue := 0 }, { name := "MAX_EXPONENT", type := .int, accessFlags := 25, slot := 8, constantValue := 0 }, { name := "MIN_EXPONENT", type := .int, accessFlags := 25, slot := 9, constantValue := 0 }, { name := "BYTES", type := .int, accessFlags := 25, slot := 10, constantValue := 0 }, { name := "TYPE", type := (.object "java/lang/Class"), accessFlags := 25, slot := 11, constantValue := 0 }, { name := "value", type := .float, accessFlags := 18, slot := 0, constantValue := 0 }, { name := "serialVersionUID", type := .long, accessFlags := 26, slot := 12, constantValue := 0 }, { name := "$assertionsDisabled", type := .boolean, accessFlags := 4120, slot := 13, constantValue := 0 }]
  methods := #[k31m0]
  instanceTypes := #[.float]
  staticTypes := #[.float, .float, .float, .float, .float, .float, .int, .int, .int, .int, .int, (.object "java/lang/Class"), .long, .boolean]
  resolved := Array.replicate 279 none
  statics := none }

def pool32 : Array CpInfo := pool [(1, .class_ 2), (0, u "java/lang/Integer"), (16, u "digits"), (0, u "[C"), (32, u "numberOfLeadingZeros"), (0, u "(I)I"), (30, u "DigitOnes"), (0, u "[B"), (2, u "DigitTens"), (99, .class_ 190), (0, u "java/lang/Integer$IntegerCache"), (3, u "I"), (8, .class_ 204), (0, u "java/lang/Number"), (2, u "value"), (56, .integer 65536), (37, u "TYPE"), (0, u "Ljava/lang/Class;"), (0, .class_ 305), (0, u "java/lang/Comparable"), (0, .class_ 307), (0, u "java/lang/constant/Constable"), (0, .class_ 309), (0, u "java/lang/constant/ConstantDesc"), (0, u "MIN_VALUE"), (1, u "MAX_VALUE"), (3, u "SIZE"), (1, u "BYTES"), (1, u "serialVersionUID"), (0, u "J")] 131

def k32c0 : Code := { maxStack := 3, maxLocals := 2, code := jdk_33_method_47_code, exceptionTable := #[], attributes := #[] }
def k32m0 : Method := { name := "numberOfLeadingZeros", desc := "(I)I", sig := { parameters := [.int], returnType := some .int }, accessFlags := 9, code := some k32c0 }
/-- java/lang/Integer -/
def k32 : Class := { plain "java/lang/Integer" (some 30) with
  accessFlags := 49
  interfaces := #[4, 3, 9]
  cf := some (fileOf pool32 1 #[.nestMembers #[189]] #[{ accessFlags := 9, nameIndex := 53, descriptorIndex := 54, attributes := #[] }] 49 203 #[304, 306, 308] #[{ accessFlags := 25, nameIndex := 310, descriptorIndex := 194, attributes := #[] }, { accessFlags := 25, nameIndex := 312, descriptorIndex := 194, attributes := #[] }, { accessFlags := 25, nameIndex := 302, descriptorIndex := 303, attributes := #[] }, { accessFlags := 24, nameIndex := 19, descriptorIndex := 20, attributes := #[] }, { accessFlags := 24, nameIndex := 89, descriptorIndex := 86, attributes := #[] }, { accessFlags := 24, nameIndex := 85, descriptorIndex := 86, attributes := #[] }, { accessFlags := 18, nameIndex := 207, descriptorIndex := 194, attributes := #[] }, { accessFlags := 25, nameIndex := 316, descriptorIndex := 194, attributes := #[] }, { accessFlags := 25, nameIndex := 318, descriptorIndex := 194, attributes := #[] }, { accessFlags := 26, nameIndex := 320, descriptorIndex := 321, attributes := #[] }])
  fields := #[{ name := "MIN_VALUE", type := .int, accessFlags := 25, slot := 0, constantValue := 0 }, { name := "MAX_VALUE", type := .int, accessFlags := 25, slot := 1, constantValue := 0 }, { name := "TYPE", type := (.object "java/lang/Class"), accessFlags := 25, slot := 2, constantValue := 0 }, { name := "digits", type := (.array .char), accessFlags := 24, slot := 3, constantValue := 0 }, { name := "DigitTens", type := (.array .byte), accessFlags := 24, slot := 4, constantValue := 0 }, { name := "DigitOnes", type := (.array .byte), accessFlags := 24, slot := 5, constantValue := 0 }, { name := "value", type := .int, accessFlags := 18, slot := 0, constantValue := 0 }, { name := "SIZE", type := .int, accessFlags := 25, slot := 6, constantValue := 0 }, { name := "BYTES", type := .int, accessFlags := 25, slot := 7, constantValue := 0 }, { name := "serialVersionUID", type := .long, accessFlags := 26, slot := 8, constantValue := 0 }]
  methods := #[k32m0]
  instanceTypes := #[.int]
  staticTypes := #[.int, .int, (.object "java/lang/Class"), (.array .char), (.array .byte), (.array .byte), .int, .int, .long]
  resolved := Array.replicate 453 none
  statics := none }

def pool33 : Array CpInfo := pool [(1, .methodref 2 3), (0, .class_ 4), (0, .nameAndType 5 6), (0, u "java/lang/Object"), (0, u "<init>"), (0, u "()V"), (0, .class_ 8), (0, u "java/util/LinkedHashSet"), (0, .methodref 7 3), (0, .fieldref 11 12), (0, .class_ 13), (0, .nameAndType 14 15), (0, u "com/example/graph_of_conflicts/graphofconflicts/engine/Node"), (0, u "predecessors"), (0, u "Ljava/util/Set;"), (0, .class_ 17), (0, u "java/util/LinkedHashMap"), (0, .methodref 16 3), (0, .fieldref 11 20), (0, .nameAndType 21 22), (0, u "successors"), (0, u "Ljava/util/Map;"), (0, .fieldref 11 24), (0, .nameAndType 25 26), (0, u "reachSlot"), (0, u "I"), (17, u "lastRead"), (0, u "Lcom/example/graph_of_conflicts/graphofconflicts/engine/Read;"), (2, u "firstRead"), (2, u "lastByTable"), (31, u "firstByTable"), (79, u "inGraph"), (0, u "Z"), (2, u "summary"), (0, u "Lcom/example/graph_of_conflicts/graphofconflicts/engine/Transaction;"), (2, u "linkedSince"), (0, u "J"), (2, u "beforeOverlapping"), (2, u "afterOverlapping"), (11, .class_ 191), (0, u "com/example/graph_of_conflicts/graphofconflicts/engine/Node$1")] 89

def k33c0 : Code := { maxStack := 3, maxLocals := 1, code := prog_51_method_1_code, exceptionTable := #[], attributes := #[] }
def k33m0 : Method := { name := "<init>", desc := "()V", sig := { parameters := [], returnType := none }, accessFlags := 0, code := some k33c0 }
/-- com/example/graph_of_conflicts/graphofconflicts/engine/Node -/
def k33 : Class := { plain "com/example/graph_of_conflicts/graphofconflicts/engine/Node" (some 0) with
  accessFlags := 32
  interfaces := #[]
  cf := some (fileOf pool33 11 #[.nestMembers #[190]] #[{ accessFlags := 0, nameIndex := 5, descriptorIndex := 6, attributes := #[] }] 32 2 #[] #[{ accessFlags := 2, nameIndex := 48, descriptorIndex := 45, attributes := #[] }, { accessFlags := 2, nameIndex := 44, descriptorIndex := 45, attributes := #[] }, { accessFlags := 2, nameIndex := 83, descriptorIndex := 22, attributes := #[] }, { accessFlags := 2, nameIndex := 51, descriptorIndex := 22, attributes := #[] }, { accessFlags := 2, nameIndex := 14, descriptorIndex := 15, attributes := #[] }, { accessFlags := 2, nameIndex := 21, descriptorIndex := 22, attributes := #[] }, { accessFlags := 2, nameIndex := 163, descriptorIndex := 164, attributes := #[] }, { accessFlags := 2, nameIndex := 175, descriptorIndex := 164, attributes := #[] }, { accessFlags := 2, nameIndex := 178, descriptorIndex := 164, attributes := #[] }, { accessFlags := 2, nameIndex := 167, descriptorIndex := 168, attributes := #[] }, { accessFlags := 2, nameIndex := 25, descriptorIndex := 26, attributes := #[] }, { accessFlags := 2, nameIndex := 171, descriptorIndex := 172, attributes := #[] }])
  fields := #[{ name := "firstRead", type := (.object "com/example/graph_of_conflicts/graphofconflicts/engine/Read"), accessFlags := 2, slot := 0, constantValue := 0 }, { name := "lastRead", type := (.object "com/example/graph_of_conflicts/graphofconflicts/engine/Read"), accessFlags := 2, slot := 1, constantValue := 0 }, { name := "firstByTable", type := (.object "java/util/Map"), accessFlags := 2, slot := 2, constantValue := 0 }, { name := "lastByTable", type := (.object "java/util/Map"), accessFlags := 2, slot := 3, constantValue := 0 }, { name := "predecessors", type := (.object "java/util/Set"), accessFlags := 2, slot := 4, constantValue := 0 }, { name := "successors", type := (.object "java/util/Map"), accessFlags := 2, slot := 5, constantValue := 0 }, { name := "inGraph", type := .boolean, accessFlags := 2, slot := 6, constantValue := 0 }, { name := "beforeOverlapping", type := .boolean, accessFlags := 2, slot := 7, constantValue := 0 }, { name := "afterOverlapping", type := .boolean, accessFlags := 2, slot := 8, constantValue := 0 }, { name := "summary", type := (.object "com/example/graph_of_conflicts/graphofconflicts/engine/Transaction"), accessFlags := 2, slot := 9, constantValue := 0 }, { name := "reachSlot", type := .int, accessFlags := 2, slot := 10, constantValue := 0 }, { name := "linkedSince", type := .long, accessFlags := 2, slot := 11, constantValue := 0 }]
  methods := #[k33m0]
  instanceTypes := #[(.object "com/example/graph_of_conflicts/graphofconflicts/engine/Read"), (.object "com/example/graph_of_conflicts/graphofconflicts/engine/Read"), (.object "java/util/Map"), (.object "java/util/Map"), (.object "java/util/Set"), (.object "java/util/Map"), .boolean, .boolean, .boolean, (.object "com/example/graph_of_conflicts/graphofconflicts/engine/Transaction"), .int, .long]
  staticTypes := #[]
  resolved := Array.replicate 281 none
  statics := none }

def pool34 : Array CpInfo := pool [(4, .class_ 6), (1, u "java/lang/Object"), (0, u "<init>"), (0, u "()V"), (5, .class_ 16), (1, u "java/lang/StringLatin1"), (40, u "([B)I"), (63, u "$assertionsDisabled"), (0, u "Z"), (98, .class_ 223), (1, u "java/lang/StringLatin1$LinesSpliterator"), (74, u "hashCode"), (91, .class_ 391), (0, u "java/lang/StringLatin1$CharsSpliterator")] 3

def k34m0 : Method := { name := "<init>", desc := "()V", sig := { parameters := [], returnType := none }, accessFlags := 0, code := none }
def k34c1 : Code := { maxStack := 5, maxLocals := 1, code := jdk_43_method_21_code, exceptionTable := #[], attributes := #[] }
def k34m1 : Method := { name := "hashCode", desc := "([B)I", sig := { parameters := [(.array .byte)], returnType := some .int }, accessFlags := 9, code := some k34c1 }
/-- java/lang/StringLatin1 -/
def k34 : Class := { plain "java/lang/StringLatin1" (some 0) with
  accessFlags := 48
  interfaces := #[]
  cf := some (fileOf pool34 14 #[.nestMembers #[390, 221]] #[{ accessFlags := 0, nameIndex := 7, descriptorIndex := 8, attributes := #[] }, { accessFlags := 9, nameIndex := 298, descriptorIndex := 57, attributes := #[] }] 48 4 #[] #[{ accessFlags := 4120, nameIndex := 121, descriptorIndex := 122, attributes := #[] }])
  fields := #[{ name := "$assertionsDisabled", type := .boolean, accessFlags := 4120, slot := 0, constantValue := 0 }]
  methods := #[k34m0, k34m1]
  instanceTypes := #[]
  staticTypes := #[.boolean]
  resolved := Array.replicate 395 none
  statics := none }

def pool35 : Array CpInfo := pool [(2, .class_ 4), (1, u "java/lang/Object"), (0, u "<init>"), (0, u "()V"), (17, .class_ 26), (1, u "jdk/internal/util/Preconditions"), (28, .class_ 56), (0, u "jdk/internal/util/Preconditions$4"), (57, .class_ 115), (0, u "jdk/internal/util/Preconditions$1"), (7, u "SIOOBE_FORMATTER"), (0, u "Ljava/util/function/BiFunction;"), (0, .class_ 126), (0, u "jdk/internal/util/Preconditions$2"), (3, u "AIOOBE_FORMATTER"), (0, .class_ 132), (0, u "jdk/internal/util/Preconditions$3"), (3, u "IOOBE_FORMATTER")] 57

def k35m0 : Method := { name := "<init>", desc := "()V", sig := { parameters := [], returnType := none }, accessFlags := 1, code := none }
/-- jdk/internal/util/Preconditions -/
def k35 : Class := { plain "jdk/internal/util/Preconditions" (some 0) with
  accessFlags := 33
  interfaces := #[]
  cf := some (fileOf pool35 24 #[.nestMembers #[55, 131, 125, 114]] #[{ accessFlags := 1, nameIndex := 5, descriptorIndex := 6, attributes := #[] }] 33 2 #[] #[{ accessFlags := 25, nameIndex := 123, descriptorIndex := 124, attributes := #[] }, { accessFlags := 25, nameIndex := 130, descriptorIndex := 124, attributes := #[] }, { accessFlags := 25, nameIndex := 136, descriptorIndex := 124, attributes := #[] }])
  fields := #[{ name := "SIOOBE_FORMATTER", type := (.object "java/util/function/BiFunction"), accessFlags := 25, slot := 0, constantValue := 0 }, { name := "AIOOBE_FORMATTER", type := (.object "java/util/function/BiFunction"), accessFlags := 25, slot := 1, constantValue := 0 }, { name := "IOOBE_FORMATTER", type := (.object "java/util/function/BiFunction"), accessFlags := 25, slot := 2, constantValue := 0 }]
  methods := #[k35m0]
  instanceTypes := #[]
  staticTypes := #[(.object "java/util/function/BiFunction"), (.object "java/util/function/BiFunction"), (.object "java/util/function/BiFunction")]
  resolved := Array.replicate 194 none
  statics := some 4 }

def pool36 : Array CpInfo := pool [(9, u "<init>"), (6, .class_ 18), (1, u "java/lang/Object"), (0, u "()V"), (1, .class_ 23), (1, u "jdk/internal/util/ArraysSupport"), (0, u "LOG2_ARRAY_LONG_INDEX_SCALE"), (0, u "I"), (2, u "U"), (0, u "Ljdk/internal/misc/Unsafe;"), (8, u "BIG_ENDIAN"), (0, u "Z"), (8, u "LOG2_BYTE_BIT_SIZE"), (4, u "LOG2_ARRAY_INT_INDEX_SCALE"), (54, u "JLA"), (0, u "Ljdk/internal/access/JavaLangAccess;"), (11, u "LOG2_ARRAY_BOOLEAN_INDEX_SCALE"), (9, u "LOG2_ARRAY_BYTE_INDEX_SCALE"), (5, u "LOG2_ARRAY_CHAR_INDEX_SCALE"), (5, u "LOG2_ARRAY_SHORT_INDEX_SCALE"), (18, u "LOG2_ARRAY_FLOAT_INDEX_SCALE"), (24, u "LOG2_ARRAY_DOUBLE_INDEX_SCALE"), (89, u "T_BOOLEAN"), (2, u "T_CHAR"), (1, u "T_FLOAT"), (1, u "T_DOUBLE"), (1, u "T_BYTE"), (1, u "T_SHORT"), (1, u "T_INT"), (1, u "T_LONG"), (1, u "SOFT_MAX_ARRAY_LENGTH")] 83

def k36m0 : Method := { name := "<init>", desc := "()V", sig := { parameters := [], returnType := none }, accessFlags := 2, code := none }
/-- jdk/internal/util/ArraysSupport -/
def k36 : Class := { plain "jdk/internal/util/ArraysSupport" (some 0) with
  accessFlags := 33
  interfaces := #[]
  cf := some (fileOf pool36 21 #[] #[{ accessFlags := 2, nameIndex := 9, descriptorIndex := 19, attributes := #[] }] 33 16 #[] #[{ accessFlags := 24, nameIndex := 28, descriptorIndex := 29, attributes := #[] }, { accessFlags := 26, nameIndex := 38, descriptorIndex := 39, attributes := #[] }, { accessFlags := 25, nameIndex := 121, descriptorIndex := 25, attributes := #[] }, { accessFlags := 25, nameIndex := 131, descriptorIndex := 25, attributes := #[] }, { accessFlags := 25, nameIndex := 137, descriptorIndex := 25, attributes := #[] }, { accessFlags := 25, nameIndex := 143, descriptorIndex := 25, attributes := #[] }, { accessFlags := 25, nameIndex := 53, descriptorIndex := 25, attributes := #[] }, { accessFlags := 25, nameIndex := 24, descriptorIndex := 25, attributes := #[] }, { accessFlags := 25, nameIndex := 162, descriptorIndex := 25, attributes := #[] }, { accessFlags := 25, nameIndex := 187, descriptorIndex := 25, attributes := #[] }, { accessFlags := 26, nameIndex := 48, descriptorIndex := 25, attributes := #[] }, { accessFlags := 25, nameIndex := 277, descriptorIndex := 25, attributes := #[] }, { accessFlags := 25, nameIndex := 280, descriptorIndex := 25, attributes := #[] }, { accessFlags := 25, nameIndex := 282, descriptorIndex := 25, attributes := #[] }, { accessFlags := 25, nameIndex := 284, descriptorIndex := 25, attributes := #[] }, { accessFlags := 25, nameIndex := 286, descriptorIndex := 25, attributes := #[] }, { accessFlags := 25, nameIndex := 288, descriptorIndex := 25, attributes := #[] }, { accessFlags := 25, nameIndex := 290, descriptorIndex := 25, attributes := #[] }, { accessFlags := 25, nameIndex := 292, descriptorIndex := 25, attributes := #[] }, { accessFlags := 26, nameIndex := 108, descriptorIndex := 109, attributes := #[] }, { accessFlags := 25, nameIndex := 294, descriptorIndex := 25, attributes := #[] }])
  fields := #[{ name := "U", type := (.object "jdk/internal/misc/Unsafe"), accessFlags := 24, slot := 0, constantValue := 0 }, { name := "BIG_ENDIAN", type := .boolean, accessFlags := 26, slot := 1, constantValue := 0 }, { name := "LOG2_ARRAY_BOOLEAN_INDEX_SCALE", type := .int, accessFlags := 25, slot := 2, constantValue := 0 }, { name := "LOG2_ARRAY_BYTE_INDEX_SCALE", type := .int, accessFlags := 25, slot := 3, constantValue := 0 }, { name := "LOG2_ARRAY_CHAR_INDEX_SCALE", type := .int, accessFlags := 25, slot := 4, constantValue := 0 }, { name := "LOG2_ARRAY_SHORT_INDEX_SCALE", type := .int, accessFlags := 25, slot := 5, constantValue := 0 }, { name := "LOG2_ARRAY_INT_INDEX_SCALE", type := .int, accessFlags := 25, slot := 6, constantValue := 0 }, { name := "LOG2_ARRAY_LONG_INDEX_SCALE", type := .int, accessFlags := 25, slot := 7, constantValue := 0 }, { name := "LOG2_ARRAY_FLOAT_INDEX_SCALE", type := .int, accessFlags := 25, slot := 8, constantValue := 0 }, { name := "LOG2_ARRAY_DOUBLE_INDEX_SCALE", type := .int, accessFlags := 25, slot := 9, constantValue := 0 }, { name := "LOG2_BYTE_BIT_SIZE", type := .int, accessFlags := 26, slot := 10, constantValue := 0 }, { name := "T_BOOLEAN", type := .int, accessFlags := 25, slot := 11, constantValue := 0 }, { name := "T_CHAR", type := .int, accessFlags := 25, slot := 12, constantValue := 0 }, { name := "T_FLOAT", type := .int, accessFlags := 25, slot := 13, constantValue := 0 }, { name := "T_DOUBLE", type := .int, accessFlags := 25, slot := 14, constantValue := 0 }, { name := "T_BYTE", type := .int, accessFlags := 25, slot := 15, constantValue := 0 }, { name := "T_SHORT", type := .int, accessFlags := 25, slot := 16, constantValue := 0 }, { name := "T_INT", type := .int, accessFlags := 25, slot := 17, constantValue := 0 }, { name := "T_LONG", type := .int, accessFlags := 25, slot := 18, constantValue := 0 }, { name := "JLA", type := (.object "jdk/internal/access/JavaLangAccess"), accessFlags := 26, slot := 19, constantValue := 0 }, { name := "SOFT_MAX_ARRAY_LENGTH", type := .int, accessFlags := 25, slot := 20, constantValue := 0 }]
  methods := #[k36m0]
  instanceTypes := #[]
  staticTypes := #[(.object "jdk/internal/misc/Unsafe"), .boolean, .int, .int, .int, .int, .int, .int, .int, .int, .int, .int, .int, .int, .int, .int, .int, .int, .int, (.object "jdk/internal/access/JavaLangAccess"), .int]
  resolved := Array.replicate 378 none
  statics := none }

def pool37 : Array CpInfo := pool [(2, .class_ 4), (1, u "java/util/AbstractCollection"), (0, u "<init>"), (0, u "()V"), (1, .class_ 10), (1, u "java/util/ImmutableCollections"), (2, .class_ 14), (0, u "java/util/ImmutableCollections$AbstractImmutableCollection")] 41

def k37m0 : Method := { name := "<init>", desc := "()V", sig := { parameters := [], returnType := none }, accessFlags := 0, code := none }
/-- java/util/ImmutableCollections$AbstractImmutableCollection -/
def k37 : Class := { plain "java/util/ImmutableCollections$AbstractImmutableCollection" (some 18) with
  accessFlags := 1056
  interfaces := #[]
  cf := some (fileOf pool37 13 #[.nestHost 8] #[{ accessFlags := 0, nameIndex := 5, descriptorIndex := 6, attributes := #[] }] 1056 2 #[] #[])
  fields := #[]
  methods := #[k37m0]
  instanceTypes := #[]
  staticTypes := #[]
  resolved := Array.replicate 56 none
  statics := none }

def pool38 : Array CpInfo := pool [(2, .class_ 4), (1, u "java/util/ImmutableCollections$AbstractImmutableCollection"), (0, u "<init>"), (0, u "()V"), (0, .class_ 8), (0, u "java/util/Set"), (7, .class_ 17), (0, u "java/util/ImmutableCollections$AbstractImmutableSet"), (43, .class_ 62), (0, u "java/util/ImmutableCollections")] 3

def k38m0 : Method := { name := "<init>", desc := "()V", sig := { parameters := [], returnType := none }, accessFlags := 0, code := none }
/-- java/util/ImmutableCollections$AbstractImmutableSet -/
def k38 : Class := { plain "java/util/ImmutableCollections$AbstractImmutableSet" (some 37) with
  accessFlags := 1056
  interfaces := #[16]
  cf := some (fileOf pool38 16 #[.nestHost 61] #[{ accessFlags := 0, nameIndex := 5, descriptorIndex := 6, attributes := #[] }] 1056 2 #[7] #[])
  fields := #[]
  methods := #[k38m0]
  instanceTypes := #[]
  staticTypes := #[]
  resolved := Array.replicate 66 none
  statics := none }

def pool39 : Array CpInfo := pool [(1, .class_ 2), (0, u "java/util/ImmutableCollections"), (1, .class_ 6), (1, u "java/util/ImmutableCollections$AbstractImmutableSet"), (3, .class_ 12), (1, u "java/util/ImmutableCollections$SetN"), (0, u "size"), (0, u "I"), (4, u "elements"), (0, u "[Ljava/lang/Object;"), (86, .class_ 108), (0, u "java/io/Serializable")] 59

/-- java/util/ImmutableCollections$SetN -/
def k39 : Class := { plain "java/util/ImmutableCollections$SetN" (some 38) with
  accessFlags := 48
  interfaces := #[5]
  cf := some (fileOf pool39 10 #[.nestHost 1] #[] 48 4 #[107] #[{ accessFlags := 16, nameIndex := 19, descriptorIndex := 20, attributes := #[] }, { accessFlags := 16, nameIndex := 13, descriptorIndex := 14, attributes := #[] }])
  fields := #[{ name := "elements", type := (.array (.object "java/lang/Object")), accessFlags := 16, slot := 0, constantValue := 0 }, { name := "size", type := .int, accessFlags := 16, slot := 1, constantValue := 0 }]
  methods := #[]
  instanceTypes := #[(.array (.object "java/lang/Object")), .int]
  staticTypes := #[]
  resolved := Array.replicate 168 none
  statics := none }

/-- the primitive byte -/
def k40 : Class := { plain "byte" none with kind := .primitive 'B', accessFlags := 0x411 }
/-- [B -/
def k41 : Class := { plain "[B" (some 0) with kind := .array 40 .byte, interfaces := #[20, 5], accessFlags := 1041 }

/-- the primitive char -/
def k42 : Class := { plain "char" none with kind := .primitive 'C', accessFlags := 0x411 }
/-- [C -/
def k43 : Class := { plain "[C" (some 0) with kind := .array 42 .char, interfaces := #[20, 5], accessFlags := 1041 }

/-- the primitive int -/
def k44 : Class := { plain "int" none with kind := .primitive 'I', accessFlags := 0x411 }
/-- [I -/
def k45 : Class := { plain "[I" (some 0) with kind := .array 44 .int, interfaces := #[20, 5], accessFlags := 1041 }

/-- [Ljava/lang/Object; -/
def k46 : Class := { plain "[Ljava/lang/Object;" (some 0) with kind := .array 0 (.object "java/lang/Object"), interfaces := #[20, 5], accessFlags := 1041 }

def heap : Heap := #[{ cls := 7, slots := #[.ref 6, .ref 6, .ref 6, .null], vm := .statics 7 },
  { cls := 10, slots := #[.long 0, .int 1, .null, .int 0, .null, .int 0, .int 0], vm := .statics 10 },
  { cls := 12, slots := #[.ref 7, .null, .null, .null], vm := .statics 12 },
  { cls := 17, slots := #[.long 0, .int 0, .null, .null, .null, .null, .ref 8, .null, .int 0, .int 0], vm := .statics 17 },
  { cls := 35, slots := #[.null, .null, .null], vm := .statics 35 },
  { cls := 46, slots := #[], vm := .none },
  { cls := 7, slots := #[.null, .int 0, .int 0, .null], vm := .none },
  { cls := 12, slots := #[.null, .int 0, .int 0], vm := .none },
  { cls := 39, slots := #[.ref 5, .int 0], vm := .none }]
def classes : Array Class := #[k0, k1, k2, k3, k4, k5, k6, k7, k8, k9, k10, k11, k12, k13, k14, k15, k16, k17, k18, k19, k20, k21, k22, k23, k24, k25, k26, k27, k28, k29, k30, k31, k32, k33, k34, k35, k36, k37, k38, k39, k40, k41, k42, k43, k44, k45, k46]
def interned : List (Array UInt16 × Addr) := []
def slotsUsed : Nat := 37
def theMethod : MethodId := ⟨1, 2⟩
def args0 : Array Value := #[.long 5, .long 6, .long 7, .int 9]
def aboutOver (below : List Frame) : State where
  vm := { classes := classes, interned := interned.toArray }
  heap := heap
  slotsUsed := slotsUsed
  threads := #[{ frames := .invoking theMethod args0 :: below }]
def below0 : List Frame := [.native { method := ⟨0, 0⟩, args := #[] }]
def about1 : State := aboutOver below0
def p0 : Program := .bare "" "" ""
def e0 : Env := launch0.env 0 0 0
theorem w_frames : about1.frames = Frame.invoking theMethod args0 :: below0 := rfl
set_option maxRecDepth 65536 in
theorem w_args : argsFit about1.vm theMethod args0 = true := by decide +kernel
set_option maxRecDepth 65536 in
theorem w_heap : heapFits about1 = true := by decide +kernel
set_option maxRecDepth 65536 in
theorem w_runnable : about1.curStatus? = some .runnable := by decide +kernel
set_option maxRecDepth 65536 in
theorem w_alone : about1.alone = true := by decide +kernel
set_option maxRecDepth 65536 in
theorem w_named : about1.methodNamed? x = some theMethod := by decide +kernel
set_option maxRecDepth 65536 in
theorem w_hears : about1.hears theMethod below0 = true := by decide +kernel
set_option maxRecDepth 65536 in
theorem w_ripe : about1.ripe theMethod args0 below0 = true := by decide +kernel
theorem w_running : about1.status = .running := rfl
set_option maxRecDepth 65536 in
theorem w_room : about1.hasRoom e0.platform room_1 = true :=
  launch0.hasRoom_least _ room_1 (by decide +kernel) (by decide +kernel) (by decide +kernel) (by decide +kernel) (by decide +kernel) (by decide +kernel)
theorem allAtoms_all (ts : List Jvm.Cond) (a : Array Jvm.Value) (st : Jvm.State) : (allAtoms ts).before a st = ts.all (fun c => c.before a st) := by
  induction ts with
  | nil => rfl
  | cons c t ih =>
    show (Jvm.Cond.and c (allAtoms t)).before a st = _
    rw [Jvm.Cond.before_and, ih, List.all_cons]
def words1 : List Jvm.Cond := Jvm.Cond.code x code maxLocals ret :: tables_1
/-- a 'code' word, met by the world's own term for the bytes: nothing is compared byte by byte -/
theorem code_word {y : MethodName} {bytes : ByteArray} {mx : Nat} {rt : Option FieldType} {a : Array Value} {s : State} {m : MethodId} {meth : Method} {c : Code} (h1 : s.methodNamed? y = some m) (h2 : s.vm.method? m = some meth) (h3 : meth.code = some c) (h4 : c.code = bytes)
    (h5 : (c.maxLocals == mx && c.exceptionTable.isEmpty && decide (c.maxStack ≤ mostOperands) && decide (meth.sig.returnType = rt) && !meth.locks && decide (parseMethodDescriptor y.desc = some meth.sig)) = true) : (Jvm.Cond.code y bytes mx rt).before a s = true := by
  simp only [Bool.and_eq_true, beq_iff_eq, Bool.not_eq_true', decide_eq_true_eq] at h5
  obtain ⟨⟨⟨⟨⟨g1, g2⟩, g3⟩, g4⟩, g5⟩, g6⟩ := h5
  simp [Cond.before, Cond.holds, Cond.value, h1, h2, h3, h4, g1, g2, g3, g4, g5, g6]
def isCode : Jvm.Cond → Bool
  | .code _ _ _ _ => true
  | _ => false
theorem all_split {L : List Jvm.Cond} {P : Jvm.Cond → Bool} (h1 : L.all (fun c => isCode c || P c) = true) (h2 : ∀ c ∈ L.filter isCode, P c = true) : L.all P = true := by
  refine List.all_eq_true.mpr fun c hc => ?_
  have h := List.all_eq_true.mp h1 c hc
  rcases Bool.eq_false_or_eq_true (isCode c) with hi | hi
  · exact h2 c (List.mem_filter.mpr ⟨hc, hi⟩)
  · simpa [hi] using h
set_option maxRecDepth 65536 in
theorem w_c0 : (Jvm.Cond.code x code maxLocals ret).before args0 about1 = true := code_word (m := ⟨1, 2⟩) (meth := k1m2) (c := k1c2) (by decide +kernel) rfl rfl rfl (by decide +kernel)
set_option maxRecDepth 65536 in
theorem w_c1 : (Jvm.Cond.code ({ cls := "com/example/graph_of_conflicts/graphofconflicts/engine/TransactionTakeSnapshotPinLaw", name := "level", desc := "(I)Lcom/example/graph_of_conflicts/graphofconflicts/api/IsolationLevel;" } : Jvm.MethodName) method_2_code (2 : Nat) (Option.some (Jvm.ClassFile.FieldType.object "com/example/graph_of_conflicts/graphofconflicts/api/IsolationLevel"))).before args0 about1 = true := code_word (m := ⟨1, 1⟩) (meth := k1m1) (c := k1c1) (by decide +kernel) rfl rfl rfl (by decide +kernel)
set_option maxRecDepth 65536 in
theorem w_c2 : (Jvm.Cond.code ({ cls := "java/lang/String", name := "<init>", desc := "([C)V" } : Jvm.MethodName) jdk_42_method_3_code (2 : Nat) (Option.none : Option Jvm.ClassFile.FieldType)).before args0 about1 = true := code_word (m := ⟨10, 1⟩) (meth := k10m1) (c := k10c1) (by decide +kernel) rfl rfl rfl (by decide +kernel)
set_option maxRecDepth 65536 in
theorem w_c3 : (Jvm.Cond.code ({ cls := "java/lang/String", name := "<init>", desc := "([CIILjava/lang/Void;)V" } : Jvm.MethodName) jdk_42_method_149_code (6 : Nat) (Option.none : Option Jvm.ClassFile.FieldType)).before args0 about1 = true := code_word (m := ⟨10, 3⟩) (meth := k10m3) (c := k10c3) (by decide +kernel) rfl rfl rfl (by decide +kernel)
set_option maxRecDepth 65536 in
theorem w_c4 : (Jvm.Cond.code ({ cls := "java/lang/Object", name := "<init>", desc := "()V" } : Jvm.MethodName) object_method_1_code (1 : Nat) (Option.none : Option Jvm.ClassFile.FieldType)).before args0 about1 = true := code_word (m := ⟨0, 0⟩) (meth := k0m0) (c := k0c0) (by decide +kernel) rfl rfl rfl (by decide +kernel)
set_option maxRecDepth 65536 in
theorem w_c5 : (Jvm.Cond.code ({ cls := "java/lang/StringUTF16", name := "compress", desc := "([CII)[B" } : Jvm.MethodName) jdk_52_method_16_code (6 : Nat) (Option.some (Jvm.ClassFile.FieldType.array Jvm.ClassFile.FieldType.byte))).before args0 about1 = true := code_word (m := ⟨11, 2⟩) (meth := k11m2) (c := k11c2) (by decide +kernel) rfl rfl rfl (by decide +kernel)
set_option maxRecDepth 65536 in
theorem w_c6 : (Jvm.Cond.code ({ cls := "java/lang/StringUTF16", name := "compress", desc := "([CI[BII)I" } : Jvm.MethodName) jdk_52_method_21_code (7 : Nat) (Option.some Jvm.ClassFile.FieldType.int)).before args0 about1 = true := code_word (m := ⟨11, 3⟩) (meth := k11m3) (c := k11c3) (by decide +kernel) rfl rfl rfl (by decide +kernel)
set_option maxRecDepth 65536 in
theorem w_c7 : (Jvm.Cond.code ({ cls := "java/lang/StringUTF16", name := "coderFromArrayLen", desc := "([BI)B" } : Jvm.MethodName) jdk_52_method_15_code (2 : Nat) (Option.some Jvm.ClassFile.FieldType.byte)).before args0 about1 = true := code_word (m := ⟨11, 1⟩) (meth := k11m1) (c := k11c1) (by decide +kernel) rfl rfl rfl (by decide +kernel)
set_option maxRecDepth 65536 in
theorem w_c8 : (Jvm.Cond.code ({ cls := "com/example/graph_of_conflicts/graphofconflicts/engine/Transaction", name := "<init>", desc := "(Lcom/example/graph_of_conflicts/graphofconflicts/api/IsolationLevel;Ljava/lang/String;)V" } : Jvm.MethodName) prog_62_method_1_code (3 : Nat) (Option.none : Option Jvm.ClassFile.FieldType)).before args0 about1 = true := code_word (m := ⟨2, 0⟩) (meth := k2m0) (c := k2c0) (by decide +kernel) rfl rfl rfl (by decide +kernel)
set_option maxRecDepth 65536 in
theorem w_c9 : (Jvm.Cond.code ({ cls := "com/example/graph_of_conflicts/graphofconflicts/engine/KeysByTable", name := "<init>", desc := "()V" } : Jvm.MethodName) prog_46_method_1_code (1 : Nat) (Option.none : Option Jvm.ClassFile.FieldType)).before args0 about1 = true := code_word (m := ⟨13, 0⟩) (meth := k13m0) (c := k13c0) (by decide +kernel) rfl rfl rfl (by decide +kernel)
set_option maxRecDepth 65536 in
theorem w_c10 : (Jvm.Cond.code ({ cls := "java/util/Set", name := "of", desc := "()Ljava/util/Set;" } : Jvm.MethodName) jdk_96_method_17_code (0 : Nat) (Option.some (Jvm.ClassFile.FieldType.object "java/util/Set"))).before args0 about1 = true := code_word (m := ⟨16, 0⟩) (meth := k16m0) (c := k16c0) (by decide +kernel) rfl rfl rfl (by decide +kernel)
set_option maxRecDepth 65536 in
theorem w_c11 : (Jvm.Cond.code ({ cls := "java/util/LinkedHashSet", name := "<init>", desc := "()V" } : Jvm.MethodName) jdk_2620_method_3_code (1 : Nat) (Option.none : Option Jvm.ClassFile.FieldType)).before args0 about1 = true := code_word (m := ⟨24, 0⟩) (meth := k24m0) (c := k24c0) (by decide +kernel) rfl rfl rfl (by decide +kernel)
set_option maxRecDepth 65536 in
theorem w_c12 : (Jvm.Cond.code ({ cls := "java/util/HashSet", name := "<init>", desc := "(IFZ)V" } : Jvm.MethodName) jdk_93_method_5_code (4 : Nat) (Option.none : Option Jvm.ClassFile.FieldType)).before args0 about1 = true := code_word (m := ⟨21, 1⟩) (meth := k21m1) (c := k21c1) (by decide +kernel) rfl rfl rfl (by decide +kernel)
set_option maxRecDepth 65536 in
theorem w_c13 : (Jvm.Cond.code ({ cls := "java/util/AbstractSet", name := "<init>", desc := "()V" } : Jvm.MethodName) jdk_91_method_1_code (1 : Nat) (Option.none : Option Jvm.ClassFile.FieldType)).before args0 about1 = true := code_word (m := ⟨19, 0⟩) (meth := k19m0) (c := k19c0) (by decide +kernel) rfl rfl rfl (by decide +kernel)
set_option maxRecDepth 65536 in
theorem w_c14 : (Jvm.Cond.code ({ cls := "java/util/AbstractCollection", name := "<init>", desc := "()V" } : Jvm.MethodName) jdk_22_method_1_code (1 : Nat) (Option.none : Option Jvm.ClassFile.FieldType)).before args0 about1 = true := code_word (m := ⟨18, 0⟩) (meth := k18m0) (c := k18c0) (by decide +kernel) rfl rfl rfl (by decide +kernel)
set_option maxRecDepth 65536 in
theorem w_c15 : (Jvm.Cond.code ({ cls := "java/util/LinkedHashMap", name := "<init>", desc := "(IF)V" } : Jvm.MethodName) jdk_94_method_14_code (3 : Nat) (Option.none : Option Jvm.ClassFile.FieldType)).before args0 about1 = true := code_word (m := ⟨29, 0⟩) (meth := k29m0) (c := k29c0) (by decide +kernel) rfl rfl rfl (by decide +kernel)
set_option maxRecDepth 65536 in
theorem w_c16 : (Jvm.Cond.code ({ cls := "java/util/HashMap", name := "<init>", desc := "(IF)V" } : Jvm.MethodName) jdk_69_method_5_code (3 : Nat) (Option.none : Option Jvm.ClassFile.FieldType)).before args0 about1 = true := code_word (m := ⟨27, 1⟩) (meth := k27m1) (c := k27c1) (by decide +kernel) rfl rfl rfl (by decide +kernel)
set_option maxRecDepth 65536 in
theorem w_c17 : (Jvm.Cond.code ({ cls := "java/util/AbstractMap", name := "<init>", desc := "()V" } : Jvm.MethodName) jdk_71_method_1_code (1 : Nat) (Option.none : Option Jvm.ClassFile.FieldType)).before args0 about1 = true := code_word (m := ⟨26, 0⟩) (meth := k26m0) (c := k26c0) (by decide +kernel) rfl rfl rfl (by decide +kernel)
set_option maxRecDepth 65536 in
theorem w_c18 : (Jvm.Cond.code ({ cls := "java/lang/Float", name := "isNaN", desc := "(F)Z" } : Jvm.MethodName) jdk_118_method_6_code (1 : Nat) (Option.some Jvm.ClassFile.FieldType.boolean)).before args0 about1 = true := code_word (m := ⟨31, 0⟩) (meth := k31m0) (c := k31c0) (by decide +kernel) rfl rfl rfl (by decide +kernel)
set_option maxRecDepth 65536 in
theorem w_c19 : (Jvm.Cond.code ({ cls := "java/util/HashMap", name := "tableSizeFor", desc := "(I)I" } : Jvm.MethodName) jdk_69_method_4_code (2 : Nat) (Option.some Jvm.ClassFile.FieldType.int)).before args0 about1 = true := code_word (m := ⟨27, 0⟩) (meth := k27m0) (c := k27c0) (by decide +kernel) rfl rfl rfl (by decide +kernel)
set_option maxRecDepth 65536 in
theorem w_c20 : (Jvm.Cond.code ({ cls := "java/lang/Integer", name := "numberOfLeadingZeros", desc := "(I)I" } : Jvm.MethodName) jdk_33_method_47_code (2 : Nat) (Option.some Jvm.ClassFile.FieldType.int)).before args0 about1 = true := code_word (m := ⟨32, 0⟩) (meth := k32m0) (c := k32c0) (by decide +kernel) rfl rfl rfl (by decide +kernel)
set_option maxRecDepth 65536 in
theorem w_c21 : (Jvm.Cond.code ({ cls := "com/example/graph_of_conflicts/graphofconflicts/engine/Node", name := "<init>", desc := "()V" } : Jvm.MethodName) prog_51_method_1_code (1 : Nat) (Option.none : Option Jvm.ClassFile.FieldType)).before args0 about1 = true := code_word (m := ⟨33, 0⟩) (meth := k33m0) (c := k33c0) (by decide +kernel) rfl rfl rfl (by decide +kernel)
set_option maxRecDepth 65536 in
theorem w_c22 : (Jvm.Cond.code ({ cls := "java/util/LinkedHashMap", name := "<init>", desc := "()V" } : Jvm.MethodName) jdk_94_method_16_code (1 : Nat) (Option.none : Option Jvm.ClassFile.FieldType)).before args0 about1 = true := code_word (m := ⟨29, 1⟩) (meth := k29m1) (c := k29c1) (by decide +kernel) rfl rfl rfl (by decide +kernel)
set_option maxRecDepth 65536 in
theorem w_c23 : (Jvm.Cond.code ({ cls := "java/util/HashMap", name := "<init>", desc := "()V" } : Jvm.MethodName) jdk_69_method_7_code (1 : Nat) (Option.none : Option Jvm.ClassFile.FieldType)).before args0 about1 = true := code_word (m := ⟨27, 2⟩) (meth := k27m2) (c := k27c2) (by decide +kernel) rfl rfl rfl (by decide +kernel)
set_option maxRecDepth 65536 in
theorem w_c24 : (Jvm.Cond.code ({ cls := "java/lang/String", name := "hashCode", desc := "()I" } : Jvm.MethodName) jdk_42_method_78_code (2 : Nat) (Option.some Jvm.ClassFile.FieldType.int)).before args0 about1 = true := code_word (m := ⟨10, 2⟩) (meth := k10m2) (c := k10c2) (by decide +kernel) rfl rfl rfl (by decide +kernel)
set_option maxRecDepth 65536 in
theorem w_c25 : (Jvm.Cond.code ({ cls := "java/lang/String", name := "isLatin1", desc := "()Z" } : Jvm.MethodName) jdk_42_method_154_code (1 : Nat) (Option.some Jvm.ClassFile.FieldType.boolean)).before args0 about1 = true := code_word (m := ⟨10, 4⟩) (meth := k10m4) (c := k10c4) (by decide +kernel) rfl rfl rfl (by decide +kernel)
set_option maxRecDepth 65536 in
theorem w_c26 : (Jvm.Cond.code ({ cls := "java/lang/StringLatin1", name := "hashCode", desc := "([B)I" } : Jvm.MethodName) jdk_43_method_21_code (1 : Nat) (Option.some Jvm.ClassFile.FieldType.int)).before args0 about1 = true := code_word (m := ⟨34, 1⟩) (meth := k34m1) (c := k34c1) (by decide +kernel) rfl rfl rfl (by decide +kernel)
set_option maxRecDepth 65536 in
theorem w_c27 : (Jvm.Cond.code ({ cls := "com/example/graph_of_conflicts/graphofconflicts/engine/Transaction", name := "takeSnapshot", desc := "(J)V" } : Jvm.MethodName) prog_62_method_10_code (3 : Nat) (Option.none : Option Jvm.ClassFile.FieldType)).before args0 about1 = true := code_word (m := ⟨2, 4⟩) (meth := k2m4) (c := k2c4) (by decide +kernel) rfl rfl rfl (by decide +kernel)
set_option maxRecDepth 65536 in
theorem w_c28 : (Jvm.Cond.code ({ cls := "com/example/graph_of_conflicts/graphofconflicts/engine/Transaction", name := "getSnapshot", desc := "()J" } : Jvm.MethodName) prog_62_method_8_code (1 : Nat) (Option.some Jvm.ClassFile.FieldType.long)).before args0 about1 = true := code_word (m := ⟨2, 2⟩) (meth := k2m2) (c := k2c2) (by decide +kernel) rfl rfl rfl (by decide +kernel)
set_option maxRecDepth 65536 in
theorem w_c29 : (Jvm.Cond.code ({ cls := "com/example/graph_of_conflicts/graphofconflicts/engine/Transaction", name := "getFirstSnapshot", desc := "()J" } : Jvm.MethodName) prog_62_method_9_code (1 : Nat) (Option.some Jvm.ClassFile.FieldType.long)).before args0 about1 = true := code_word (m := ⟨2, 3⟩) (meth := k2m3) (c := k2c3) (by decide +kernel) rfl rfl rfl (by decide +kernel)
set_option maxRecDepth 65536 in
theorem w_c30 : (Jvm.Cond.code ({ cls := "com/example/graph_of_conflicts/graphofconflicts/engine/Transaction", name := "hasSnapshot", desc := "()Z" } : Jvm.MethodName) prog_62_method_7_code (1 : Nat) (Option.some Jvm.ClassFile.FieldType.boolean)).before args0 about1 = true := code_word (m := ⟨2, 1⟩) (meth := k2m1) (c := k2c1) (by decide +kernel) rfl rfl rfl (by decide +kernel)
def codes1 : List Jvm.Cond := [Jvm.Cond.code x code maxLocals ret, Jvm.Cond.code ({ cls := "com/example/graph_of_conflicts/graphofconflicts/engine/TransactionTakeSnapshotPinLaw", name := "level", desc := "(I)Lcom/example/graph_of_conflicts/graphofconflicts/api/IsolationLevel;" } : Jvm.MethodName) method_2_code (2 : Nat) (Option.some (Jvm.ClassFile.FieldType.object "com/example/graph_of_conflicts/graphofconflicts/api/IsolationLevel")), Jvm.Cond.code ({ cls := "java/lang/String", name := "<init>", desc := "([C)V" } : Jvm.MethodName) jdk_42_method_3_code (2 : Nat) (Option.none : Option Jvm.ClassFile.FieldType), Jvm.Cond.code ({ cls := "java/lang/String", name := "<init>", desc := "([CIILjava/lang/Void;)V" } : Jvm.MethodName) jdk_42_method_149_code (6 : Nat) (Option.none : Option Jvm.ClassFile.FieldType), Jvm.Cond.code ({ cls := "java/lang/Object", name := "<init>", desc := "()V" } : Jvm.MethodName) object_method_1_code (1 : Nat) (Option.none : Option Jvm.ClassFile.FieldType), Jvm.Cond.code ({ cls := "java/lang/StringUTF16", name := "compress", desc := "([CII)[B" } : Jvm.MethodName) jdk_52_method_16_code (6 : Nat) (Option.some (Jvm.ClassFile.FieldType.array Jvm.ClassFile.FieldType.byte)), Jvm.Cond.code ({ cls := "java/lang/StringUTF16", name := "compress", desc := "([CI[BII)I" } : Jvm.MethodName) jdk_52_method_21_code (7 : Nat) (Option.some Jvm.ClassFile.FieldType.int), Jvm.Cond.code ({ cls := "java/lang/StringUTF16", name := "coderFromArrayLen", desc := "([BI)B" } : Jvm.MethodName) jdk_52_method_15_code (2 : Nat) (Option.some Jvm.ClassFile.FieldType.byte), Jvm.Cond.code ({ cls := "com/example/graph_of_conflicts/graphofconflicts/engine/Transaction", name := "<init>", desc := "(Lcom/example/graph_of_conflicts/graphofconflicts/api/IsolationLevel;Ljava/lang/String;)V" } : Jvm.MethodName) prog_62_method_1_code (3 : Nat) (Option.none : Option Jvm.ClassFile.FieldType), Jvm.Cond.code ({ cls := "com/example/graph_of_conflicts/graphofconflicts/engine/KeysByTable", name := "<init>", desc := "()V" } : Jvm.MethodName) prog_46_method_1_code (1 : Nat) (Option.none : Option Jvm.ClassFile.FieldType), Jvm.Cond.code ({ cls := "java/util/Set", name := "of", desc := "()Ljava/util/Set;" } : Jvm.MethodName) jdk_96_method_17_code (0 : Nat) (Option.some (Jvm.ClassFile.FieldType.object "java/util/Set")), Jvm.Cond.code ({ cls := "java/util/LinkedHashSet", name := "<init>", desc := "()V" } : Jvm.MethodName) jdk_2620_method_3_code (1 : Nat) (Option.none : Option Jvm.ClassFile.FieldType), Jvm.Cond.code ({ cls := "java/util/HashSet", name := "<init>", desc := "(IFZ)V" } : Jvm.MethodName) jdk_93_method_5_code (4 : Nat) (Option.none : Option Jvm.ClassFile.FieldType), Jvm.Cond.code ({ cls := "java/util/AbstractSet", name := "<init>", desc := "()V" } : Jvm.MethodName) jdk_91_method_1_code (1 : Nat) (Option.none : Option Jvm.ClassFile.FieldType), Jvm.Cond.code ({ cls := "java/util/AbstractCollection", name := "<init>", desc := "()V" } : Jvm.MethodName) jdk_22_method_1_code (1 : Nat) (Option.none : Option Jvm.ClassFile.FieldType), Jvm.Cond.code ({ cls := "java/util/LinkedHashMap", name := "<init>", desc := "(IF)V" } : Jvm.MethodName) jdk_94_method_14_code (3 : Nat) (Option.none : Option Jvm.ClassFile.FieldType), Jvm.Cond.code ({ cls := "java/util/HashMap", name := "<init>", desc := "(IF)V" } : Jvm.MethodName) jdk_69_method_5_code (3 : Nat) (Option.none : Option Jvm.ClassFile.FieldType), Jvm.Cond.code ({ cls := "java/util/AbstractMap", name := "<init>", desc := "()V" } : Jvm.MethodName) jdk_71_method_1_code (1 : Nat) (Option.none : Option Jvm.ClassFile.FieldType), Jvm.Cond.code ({ cls := "java/lang/Float", name := "isNaN", desc := "(F)Z" } : Jvm.MethodName) jdk_118_method_6_code (1 : Nat) (Option.some Jvm.ClassFile.FieldType.boolean), Jvm.Cond.code ({ cls := "java/util/HashMap", name := "tableSizeFor", desc := "(I)I" } : Jvm.MethodName) jdk_69_method_4_code (2 : Nat) (Option.some Jvm.ClassFile.FieldType.int), Jvm.Cond.code ({ cls := "java/lang/Integer", name := "numberOfLeadingZeros", desc := "(I)I" } : Jvm.MethodName) jdk_33_method_47_code (2 : Nat) (Option.some Jvm.ClassFile.FieldType.int), Jvm.Cond.code ({ cls := "com/example/graph_of_conflicts/graphofconflicts/engine/Node", name := "<init>", desc := "()V" } : Jvm.MethodName) prog_51_method_1_code (1 : Nat) (Option.none : Option Jvm.ClassFile.FieldType), Jvm.Cond.code ({ cls := "java/util/LinkedHashMap", name := "<init>", desc := "()V" } : Jvm.MethodName) jdk_94_method_16_code (1 : Nat) (Option.none : Option Jvm.ClassFile.FieldType), Jvm.Cond.code ({ cls := "java/util/HashMap", name := "<init>", desc := "()V" } : Jvm.MethodName) jdk_69_method_7_code (1 : Nat) (Option.none : Option Jvm.ClassFile.FieldType), Jvm.Cond.code ({ cls := "java/lang/String", name := "hashCode", desc := "()I" } : Jvm.MethodName) jdk_42_method_78_code (2 : Nat) (Option.some Jvm.ClassFile.FieldType.int), Jvm.Cond.code ({ cls := "java/lang/String", name := "isLatin1", desc := "()Z" } : Jvm.MethodName) jdk_42_method_154_code (1 : Nat) (Option.some Jvm.ClassFile.FieldType.boolean), Jvm.Cond.code ({ cls := "java/lang/StringLatin1", name := "hashCode", desc := "([B)I" } : Jvm.MethodName) jdk_43_method_21_code (1 : Nat) (Option.some Jvm.ClassFile.FieldType.int), Jvm.Cond.code ({ cls := "com/example/graph_of_conflicts/graphofconflicts/engine/Transaction", name := "takeSnapshot", desc := "(J)V" } : Jvm.MethodName) prog_62_method_10_code (3 : Nat) (Option.none : Option Jvm.ClassFile.FieldType), Jvm.Cond.code ({ cls := "com/example/graph_of_conflicts/graphofconflicts/engine/Transaction", name := "getSnapshot", desc := "()J" } : Jvm.MethodName) prog_62_method_8_code (1 : Nat) (Option.some Jvm.ClassFile.FieldType.long), Jvm.Cond.code ({ cls := "com/example/graph_of_conflicts/graphofconflicts/engine/Transaction", name := "getFirstSnapshot", desc := "()J" } : Jvm.MethodName) prog_62_method_9_code (1 : Nat) (Option.some Jvm.ClassFile.FieldType.long), Jvm.Cond.code ({ cls := "com/example/graph_of_conflicts/graphofconflicts/engine/Transaction", name := "hasSnapshot", desc := "()Z" } : Jvm.MethodName) prog_62_method_7_code (1 : Nat) (Option.some Jvm.ClassFile.FieldType.boolean)]
set_option maxRecDepth 65536 in
theorem codes_eq : words1.filter isCode = codes1 := rfl
theorem w_codes : ∀ c ∈ words1.filter isCode, c.before args0 about1 = true := by
  rw [codes_eq]
  intro c hc
  simp only [codes1, List.mem_cons, List.not_mem_nil, or_false] at hc
  rcases hc with rfl | rfl | rfl | rfl | rfl | rfl | rfl | rfl | rfl | rfl | rfl | rfl | rfl | rfl | rfl | rfl | rfl | rfl | rfl | rfl | rfl | rfl | rfl | rfl | rfl | rfl | rfl | rfl | rfl | rfl | rfl
  · exact w_c0
  · exact w_c1
  · exact w_c2
  · exact w_c3
  · exact w_c4
  · exact w_c5
  · exact w_c6
  · exact w_c7
  · exact w_c8
  · exact w_c9
  · exact w_c10
  · exact w_c11
  · exact w_c12
  · exact w_c13
  · exact w_c14
  · exact w_c15
  · exact w_c16
  · exact w_c17
  · exact w_c18
  · exact w_c19
  · exact w_c20
  · exact w_c21
  · exact w_c22
  · exact w_c23
  · exact w_c24
  · exact w_c25
  · exact w_c26
  · exact w_c27
  · exact w_c28
  · exact w_c29
  · exact w_c30
set_option maxRecDepth 65536 in
theorem w_t1 : (words1.take 24).all (fun c => isCode c || c.before args0 about1) = true := by decide +kernel
set_option maxRecDepth 65536 in
theorem w_t2 : ((words1.drop 24).take 24).all (fun c => isCode c || c.before args0 about1) = true := by decide +kernel
set_option maxRecDepth 65536 in
theorem w_t3 : (((words1.drop 24).drop 24).take 24).all (fun c => isCode c || c.before args0 about1) = true := by decide +kernel
set_option maxRecDepth 65536 in
theorem w_t4 : ((((words1.drop 24).drop 24).drop 24).take 24).all (fun c => isCode c || c.before args0 about1) = true := by decide +kernel
set_option maxRecDepth 65536 in
theorem w_t5 : (((((words1.drop 24).drop 24).drop 24).drop 24).take 24).all (fun c => isCode c || c.before args0 about1) = true := by decide +kernel
set_option maxRecDepth 65536 in
theorem w_t6 : ((((((words1.drop 24).drop 24).drop 24).drop 24).drop 24).take 24).all (fun c => isCode c || c.before args0 about1) = true := by decide +kernel
set_option maxRecDepth 65536 in
theorem w_t7 : (((((((words1.drop 24).drop 24).drop 24).drop 24).drop 24).drop 24).take 24).all (fun c => isCode c || c.before args0 about1) = true := by decide +kernel
set_option maxRecDepth 65536 in
theorem w_t8 : ((((((((words1.drop 24).drop 24).drop 24).drop 24).drop 24).drop 24).drop 24).take 24).all (fun c => isCode c || c.before args0 about1) = true := by decide +kernel
set_option maxRecDepth 65536 in
theorem w_t9 : (((((((((words1.drop 24).drop 24).drop 24).drop 24).drop 24).drop 24).drop 24).drop 24).take 24).all (fun c => isCode c || c.before args0 about1) = true := by decide +kernel
set_option maxRecDepth 65536 in
theorem w_t10 : (((((((((words1.drop 24).drop 24).drop 24).drop 24).drop 24).drop 24).drop 24).drop 24).drop 24).all (fun c => isCode c || c.before args0 about1) = true := by decide +kernel
theorem w_tables : (allAtoms (Jvm.Cond.code x code maxLocals ret :: tables_1)).before args0 about1 = true := by
  rw [allAtoms_all]
  show words1.all (fun c => c.before args0 about1) = true
  refine all_split ?_ w_codes
  rw [← List.take_append_drop 24 words1, List.all_append, w_t1, ← List.take_append_drop 24 (words1.drop 24), List.all_append, w_t2, ← List.take_append_drop 24 ((words1.drop 24).drop 24), List.all_append, w_t3, ← List.take_append_drop 24 (((words1.drop 24).drop 24).drop 24), List.all_append, w_t4, ← List.take_append_drop 24 ((((words1.drop 24).drop 24).drop 24).drop 24), List.all_append, w_t5, ← List.take_append_drop 24 (((((words1.drop 24).drop 24).drop 24).drop 24).drop 24), List.all_append, w_t6, ← List.take_append_drop 24 ((((((words1.drop 24).drop 24).drop 24).drop 24).drop 24).drop 24), List.all_append, w_t7, ← List.take_append_drop 24 (((((((words1.drop 24).drop 24).drop 24).drop 24).drop 24).drop 24).drop 24), List.all_append, w_t8, ← List.take_append_drop 24 ((((((((words1.drop 24).drop 24).drop 24).drop 24).drop 24).drop 24).drop 24).drop 24), List.all_append, w_t9, w_t10]
  rfl
set_option maxRecDepth 65536 in
theorem w_rest : rest_1_c.before args0 about1 = true := by decide +kernel
set_option maxRecDepth 65536 in
theorem w_case : (Jvm.Cond.and given_1 narrow_1).before args0 about1 = true := by decide +kernel
theorem w_applies : (headSpec (Jvm.Cond.code x code maxLocals ret :: tables_1) room_1).applies x e0.platform about1 = true :=
  (Spec.applies_iff w_frames).mpr ⟨w_running, w_runnable, w_alone, w_named, w_hears, w_ripe, w_room, w_tables⟩
theorem atStart : AtStart classFile x code maxLocals ret World_1 tables_1 room_1 Calls_1 rest_1 Pre_1 launch0 p0 e0 about1 theMethod args0 below0 :=
  ⟨lists_1, trivial, launch0.admits_env _ _ _, launch0.least_env, fairChoices_fair.cas, fairChoices_fair.clock, w_frames, w_args, w_heap, w_applies, trivial, w_rest, w_case⟩
end start1
theorem witness_1 : WitnessClaimed_1 := ⟨start1.p0, start1.e0, start1.about1, start1.theMethod, start1.args0, start1.below0, start1.atStart⟩
end Jvm.Pilot.@@N@@
