import JvmDerived
import JvmDerived.Pilot.@@N@@Statement
import JvmDerived.Pilot.@@N@@Code
set_option linter.unusedVariables false
set_option linter.unusedSimpArgs false
namespace Jvm.RoadKit
open Sem ClassFile Op Lib Jvm.Stand Jvm.Free Jvm.LawKit
section OwnFlow
variable {p : Program} {l : Launch} {e : Env} {R : Room} {s : State} {m : MethodId} {args : Array Value} {below : List Frame} {meth : Method} {c : Code} {T : State} {locs : List Loc} {cells slots : Nat} {P : State → Outcome → Prop} {Q : Option Value → Heap → List Loc → Prop} {C S : Nat}
/-- from t the run comes to an end at which P holds -/
def OGo (p : Program) (e : Env) (below : List Frame) (P : State → Outcome → Prop) (t : State) : Prop := ∃ s₂ o, Steps p.tables e below t s₂ ∧ s₂.status = .running ∧ Ended s₂ below o ∧ P s₂ o
/-- it returned; Q of the value, the heap and the places written; the frame -/
def OPost (s : State) (Q : Option Value → Heap → List Loc → Prop) (C S : Nat) (s₂ : State) (o : Outcome) : Prop := ∃ v L, o = .returned v ∧ Q v s₂.heap L ∧ FrameEnd s o s₂ L C S
theorem OGo.step {t t' : State} (h : ∀ u, Steps p.tables e below t' u → Steps p.tables e below t u) (g : OGo p e below P t') : OGo p e below P t := by
  obtain ⟨s2, o, h1, h2⟩ := g
  exact ⟨s2, o, h _ h1, h2⟩
theorem OGo.steps {t t' : State} (h : Steps p.tables e below t t') (g : OGo p e below P t') : OGo p e below P t := OGo.step (fun _ k => h.trans k) g
theorem OGo.retI (X : Stand p l e R s m args below meth c T locs cells slots) (hx : p.tables.exec = Jvm.exec) (hk : meth.locks = false) {pc : Nat} {Ls : Array Slot} {z : Int32} {rest : List Value} (hret : meth.sig.returnType = some .int) (hd : decode c.code pc = .ok (.ireturn, 1))
    (hc : cells ≤ C) (hs : slots ≤ S) (q : Q (some (.int z)) T.heap locs) : OGo p e below (OPost s Q C S) (T.setTop (mkF m pc Ls (.int z :: rest))) := by
  obtain ⟨fs, hr, hrun, hended, hW, hsame⟩ := X.leave (v := some (.int z)) (fun h => by rw [hret] at h; cases h) hk
  exact ⟨_, _, retOut X hx hret rfl (Or.inl ⟨rfl, Or.inl rfl, _, rfl⟩) hd hr, hrun, hended, _, _, rfl, q, ⟨_, rfl⟩, hW, hsame.mono hc hs⟩
theorem OGo.retN (X : Stand p l e R s m args below meth c T locs cells slots) (hx : p.tables.exec = Jvm.exec) (hk : meth.locks = false) {pc : Nat} {Ls : Array Slot} {z : Int32} {t : FieldType} {rest : List Value} (hret : meth.sig.returnType = some t) (ht : t = .boolean ∨ t = .byte ∨ t = .char ∨ t = .short) (hd : decode c.code pc = .ok (.ireturn, 1))
    (hc : cells ≤ C) (hs : slots ≤ S) (q : Q (some (.int (nar t z))) T.heap locs) : OGo p e below (OPost s Q C S) (T.setTop (mkF m pc Ls (.int z :: rest))) := by
  obtain ⟨fs, hr, hrun, hended, hW, hsame⟩ := X.leave (v := some (.int (nar t z))) (fun h => by rw [hret] at h; cases h) hk
  exact ⟨_, _, Jvm.RoadKit.retN X hx hret ht hd hr, hrun, hended, _, _, rfl, q, ⟨_, rfl⟩, hW, hsame.mono hc hs⟩
theorem OGo.retJ (X : Stand p l e R s m args below meth c T locs cells slots) (hx : p.tables.exec = Jvm.exec) (hk : meth.locks = false) {pc : Nat} {Ls : Array Slot} {z : Int64} {rest : List Value} (hret : meth.sig.returnType = some .long) (hd : decode c.code pc = .ok (.lreturn, 1))
    (hc : cells ≤ C) (hs : slots ≤ S) (q : Q (some (.long z)) T.heap locs) : OGo p e below (OPost s Q C S) (T.setTop (mkF m pc Ls (.long z :: rest))) := by
  obtain ⟨fs, hr, hrun, hended, hW, hsame⟩ := X.leave (v := some (.long z)) (fun h => by rw [hret] at h; cases h) hk
  exact ⟨_, _, retOut X hx hret rfl (Or.inr (Or.inl ⟨rfl, rfl, _, rfl⟩)) hd hr, hrun, hended, _, _, rfl, q, ⟨_, rfl⟩, hW, hsame.mono hc hs⟩
theorem OGo.retR (X : Stand p l e R s m args below meth c T locs cells slots) (hx : p.tables.exec = Jvm.exec) (hk : meth.locks = false) {pc : Nat} {Ls : Array Slot} {w : Value} {t : FieldType} {rest : List Value} (hret : meth.sig.returnType = some t) (ht : t.isReference = true) (hw : w.isRef = true) (hd : decode c.code pc = .ok (.areturn, 1))
    (hc : cells ≤ C) (hs : slots ≤ S) (q : Q (some w) T.heap locs) : OGo p e below (OPost s Q C S) (T.setTop (mkF m pc Ls (w :: rest))) := by
  obtain ⟨fs, hr, hrun, hended, hW, hsame⟩ := X.leave (v := some w) (fun h => by rw [hret] at h; cases h) hk
  have hn : narrow t w = w := by rcases ref_cases hw with rfl | ⟨a, rfl⟩ <;> cases t <;> first | rfl | (simp [FieldType.isReference] at ht)
  exact ⟨_, _, retOut X hx hret hn (Or.inr (Or.inr (Or.inr (Or.inr ⟨rfl, ht, hw⟩)))) hd hr, hrun, hended, _, _, rfl, q, ⟨_, rfl⟩, hW, hsame.mono hc hs⟩
theorem OGo.retV (X : Stand p l e R s m args below meth c T locs cells slots) (hx : p.tables.exec = Jvm.exec) (hk : meth.locks = false) {pc : Nat} {Ls : Array Slot} (hret : meth.sig.returnType = none) (hd : decode c.code pc = .ok (.return_, 1))
    (hc : cells ≤ C) (hs : slots ≤ S) (q : Q none T.heap locs) : OGo p e below (OPost s Q C S) (T.setTop (mkF m pc Ls [])) := by
  obtain ⟨fs, hr, hrun, hended, hW, hsame⟩ := X.leave (v := none) (fun _ => rfl) hk
  exact ⟨_, _, X.returnOut hx hret hd hr, hrun, hended, _, _, rfl, q, ⟨_, rfl⟩, hW, hsame.mono hc hs⟩
end OwnFlow
end Jvm.RoadKit
namespace Jvm.Pilot.@@N@@
open Jvm Jvm.ClassFile Sem Op Lib Jvm.Free Jvm.Stand Jvm.LawKit Jvm.RoadKit Bundle Jvm.Pilot.@@N@@.Jvm.D
theorem own_root {Z : State} {a0 : Array Value} {O K : String} {n : Nat} (w : (Cond.noSuperclass O).before a0 Z = true) (wk : (Cond.instantiable K n).before a0 Z = true) (hn : O ≠ K) : NS Z O K := by
  obtain ⟨c, k, h1, h2, h3, -, -⟩ := Cond.noSuperclass_spec w
  obtain ⟨t, k', g1, -⟩ := Cond.instantiable_spec wk
  have ne := ids_ne h1 g1 hn
  refine ⟨c, t, h1, g1, fun fuel => ?_⟩
  cases fuel with
  | zero => rfl
  | succ f => simp [Vm.isSubclassAux, ne, h2, h3]
theorem own_no {Z : State} {a0 : Array Value} {C S K : String} {m : Nat} (w : (Cond.superclass C S).before a0 Z = true) (wk : (Cond.instantiable K m).before a0 Z = true) (n : NS Z C K) (hn : C ≠ K) : ∃ c t, Z.vm.findClass C = some c ∧ Z.vm.findClass K = some t ∧ Z.vm.assignable c t = false := by
  obtain ⟨c, t, h0, g0, n3⟩ := n
  obtain ⟨p, k, kp, h1, h2, h3, h4, h5, -, h7⟩ := Cond.superclass_spec h0 w
  obtain ⟨t', k', g1, g2, g5, g7, -⟩ := Cond.instantiable_spec wk
  cases g0.symm.trans g1
  have g7' : k'.isInterface = false := by
    cases hi : k'.isInterface
    · rfl
    · rw [hi] at g7; cases g7
  have ne := ids_ne h0 g0 hn
  refine ⟨c, t, h0, g0, ?_⟩
  show Z.vm.assignableAux (255 + 1) c t = false
  simp [Vm.assignableAux, ne, h2, g2, h5, g5, g7', Vm.isSubclass, n3]
theorem own_nar01 (P : Prop) [Decidable P] : nar .boolean (if P then (0 : Int32) else (1 : Int32)) = (if P then (0 : Int32) else (1 : Int32)) := by split <;> rfl
theorem own_nar2 (P R : Prop) [Decidable P] [Decidable R] : nar .boolean (if P then (if R then (1 : Int32) else (0 : Int32)) else (0 : Int32)) = (if P then (if R then (1 : Int32) else (0 : Int32)) else (0 : Int32)) := by
  by_cases a : P
  · rw [if_pos a]; by_cases b : R
    · rw [if_pos b]; rfl
    · rw [if_neg b]; rfl
  · rw [if_neg a]; rfl
theorem d2_0 : decode prog_112_method_1_code 0 = .ok (.aload_n 0, 1) := by decide +kernel
theorem d2_1 : decode prog_112_method_1_code 1 = .ok (.invokespecial 1, 3) := by decide +kernel
theorem d2_4 : decode prog_112_method_1_code 4 = .ok (.return_, 1) := by decide +kernel
theorem pne : plainName "com/example/graph_of_conflicts/graphofconflicts/sql/Expression" = true := by first | (simp [plainName, overriddenIn]; done) | decide +kernel
theorem efe (m : MethodId) (x0 : Addr) : entryFrame m #[(.ref x0)] 1 = mkF m 0 #[.val (.ref x0)] [] := by first | (simp [entryFrame, mkF, argsToLocals, Value.category]; done) | rfl
def Qe (Z : State) (a : Addr) (h0 : Heap) (n0 : Nat) (v : Option Value) (h : Heap) (L : List Loc) : Prop := v = none ∧ Fr n0 L ∧ h = h0
set_option maxRecDepth 65536 in
set_option maxHeartbeats 40000000 in
theorem rme (l : Launch) (Z : State) (a0 : Array Value) (hw : ∀ d ∈ tables_1, d.before a0 Z = true) (ws : List Jvm.Cond) (a : Addr) (h0 : Heap) (n0 : Nat) (Z0 : n0 ≤ h0.size) :
    MetFree l (⟨"com/example/graph_of_conflicts/graphofconflicts/sql/Expression", "<init>", "()V"⟩ : MethodName) (head1 (Jvm.Cond.code (⟨"com/example/graph_of_conflicts/graphofconflicts/sql/Expression", "<init>", "()V"⟩ : MethodName) prog_112_method_1_code 1 none :: ws) ({ frames := 1, cells := 0, slots := 0, locals := 12 } : Room)) (fun aQ UQ => aQ = #[(.ref a)] ∧ Z.Warmed39 UQ.vm ∧ UQ.heap = h0) (fun _ _ _ _ _ => True) (fun _ U o U' => ∃ v L, o = .returned v ∧ Qe Z a h0 n0 v U'.heap L ∧ FrameEnd U o U' L ({ frames := 1, cells := 0, slots := 0, locals := 12 } : Room).cells ({ frames := 1, cells := 0, slots := 0, locals := 12 } : Room).slots) := by
  refine MetFree.of_bodySF (plainFor_of_name pne) hisR ?_
  intro p e s m args below meth c s₁ Bd hml0 hP hK
  obtain ⟨rfl, hZ, hh⟩ := hP
  have hx := Bd.exec
  have hby := Bd.bytes
  have hml : c.maxLocals = 1 := hml0
  have hown : s.vm.findClass "com/example/graph_of_conflicts/graphofconflicts/sql/Expression" = some m.cls := findClass_of_methodNamed Bd.named
  have hnm := (name_of_methodNamed Bd.named Bd.method).1
  have X0 : Stand p l e ({ frames := 1, cells := 0, slots := 0, locals := 12 } : Room) s m #[(.ref a)] below meth c s₁ [] 0 0 := Stand.of_body Bd
  have e0 : s₁.heap = h0 := by rw [← hh, Bd.state]; rfl
  have N0 := Fr.nil n0
  show OGo p e below (OPost s (Qe Z a h0 n0) ({ frames := 1, cells := 0, slots := 0, locals := 12 } : Room).cells ({ frames := 1, cells := 0, slots := 0, locals := 12 } : Room).slots) (s₁.setTop (entryFrame m #[(.ref a)] 1))
  refine OGo.step (fun uK kK => castTop (efe m a) kK) ?_
  show OGo p e below _ (s₁.setTop (mkF m 0 #[.val (.ref a)] []))
  refine OGo.step (fun uK kK => XS.aloadN X0.here hx rfl (hb hby d2_0) rfl rfl kK) ?_
  show OGo p e below _ (s₁.setTop (mkF m 1 #[.val (.ref a)] [(.ref a)]))
  obtain ⟨T1, X1, e1, st1⟩ := initO X0 hx hZ hown (hw _ (List.mem_of_getElem? (i := 11) rfl)) (hw _ (List.mem_of_getElem? (i := 12) rfl)) (hw _ (List.mem_of_getElem? (i := 13) rfl)) e0 (g := (mkF m 1 #[.val (.ref a)] [(.ref a)])) rfl (by rw [hml]; rfl) rfl (hb hby d2_1) (by decide) (W := 0) (by show 2 * 0 + _ ≤ _; exact Nat.le_of_eq rfl) (by decide)
  refine OGo.step (fun uK kK => st1 uK kK) ?_
  show OGo p e below _ (T1.setTop (mkF m 4 #[.val (.ref a)] []))
  exact OGo.retV X1 hx Bd.notSynchronized Bd.returns (hb hby d2_4) (by decide) (by decide) (by show Qe Z a h0 n0 _ T1.heap _; rw [e1]; exact ⟨rfl, N0, rfl⟩)
theorem d1_0 : decode prog_123_method_1_code 0 = .ok (.aload_n 0, 1) := by decide +kernel
theorem d1_1 : decode prog_123_method_1_code 1 = .ok (.invokespecial 1, 3) := by decide +kernel
theorem d1_4 : decode prog_123_method_1_code 4 = .ok (.aload_n 0, 1) := by decide +kernel
theorem d1_5 : decode prog_123_method_1_code 5 = .ok (.iload_n 1, 1) := by decide +kernel
theorem d1_6 : decode prog_123_method_1_code 6 = .ok (.putfield 7, 3) := by decide +kernel
theorem d1_9 : decode prog_123_method_1_code 9 = .ok (.aload_n 0, 1) := by decide +kernel
theorem d1_10 : decode prog_123_method_1_code 10 = .ok (.iload_n 2, 1) := by decide +kernel
theorem d1_11 : decode prog_123_method_1_code 11 = .ok (.putfield 13, 3) := by decide +kernel
theorem d1_14 : decode prog_123_method_1_code 14 = .ok (.return_, 1) := by decide +kernel
theorem pnp : plainName "com/example/graph_of_conflicts/graphofconflicts/sql/Expression$Parameter" = true := by first | (simp [plainName, overriddenIn]; done) | decide +kernel
theorem pdp_0 : parseMethodDescriptor "()V" = some ⟨[], none⟩ := by decide +kernel
theorem efp (m : MethodId) (x0 : Addr) (x1 : Int32) (x2 : Int32) : entryFrame m #[(.ref x0), (.int x1), (.int x2)] 3 = mkF m 0 #[.val (.ref x0), .val (.int x1), .val (.int x2)] [] := by first | (simp [entryFrame, mkF, argsToLocals, Value.category]; done) | rfl
def Qp (Z : State) (a : Addr) (p1 : Int32) (p2 : Int32) (h0 : Heap) (n0 : Nat) (v : Option Value) (h : Heap) (L : List Loc) : Prop := v = none ∧ Fr n0 L ∧ Keep h0 h [a] ∧ Fld Z h a "com/example/graph_of_conflicts/graphofconflicts/sql/Expression$Parameter" "index" "I" (.int p1) ∧ Fld Z h a "com/example/graph_of_conflicts/graphofconflicts/sql/Expression$Parameter" "negated" "Z" (.int (nar .boolean p2))
set_option maxRecDepth 65536 in
set_option maxHeartbeats 40000000 in
theorem rmp (l : Launch) (Z : State) (a0 : Array Value) (hw : ∀ d ∈ tables_1, d.before a0 Z = true) (ws : List Jvm.Cond) (a : Addr) (p1 : Int32) (p2 : Int32) (h0 : Heap) (n0 : Nat) (Z0 : n0 ≤ h0.size) (Fi : Fld Z h0 a "com/example/graph_of_conflicts/graphofconflicts/sql/Expression$Parameter" "index" "I" (.int (0 : Int32))) (Fn : Fld Z h0 a "com/example/graph_of_conflicts/graphofconflicts/sql/Expression$Parameter" "negated" "Z" (.int (0 : Int32))) (Ex : Exa Z h0 a "com/example/graph_of_conflicts/graphofconflicts/sql/Expression$Parameter") (ga : n0 ≤ a) :
    MetFree l (⟨"com/example/graph_of_conflicts/graphofconflicts/sql/Expression$Parameter", "<init>", "(IZ)V"⟩ : MethodName) (head1 (Jvm.Cond.code (⟨"com/example/graph_of_conflicts/graphofconflicts/sql/Expression$Parameter", "<init>", "(IZ)V"⟩ : MethodName) prog_123_method_1_code 3 none :: ws) ({ frames := 2, cells := 0, slots := 0, locals := 24 } : Room)) (fun aQ UQ => aQ = #[(.ref a), (.int p1), (.int p2)] ∧ Z.Warmed39 UQ.vm ∧ UQ.heap = h0) (fun _ _ _ _ _ => True) (fun _ U o U' => ∃ v L, o = .returned v ∧ Qp Z a p1 p2 h0 n0 v U'.heap L ∧ FrameEnd U o U' L ({ frames := 2, cells := 0, slots := 0, locals := 24 } : Room).cells ({ frames := 2, cells := 0, slots := 0, locals := 24 } : Room).slots) := by
  refine MetFree.of_bodySF (plainFor_of_name pnp) hisR ?_
  intro p e s m args below meth c s₁ Bd hml0 hP hK
  obtain ⟨rfl, hZ, hh⟩ := hP
  have hx := Bd.exec
  have hby := Bd.bytes
  have hml : c.maxLocals = 3 := hml0
  have hown : s.vm.findClass "com/example/graph_of_conflicts/graphofconflicts/sql/Expression$Parameter" = some m.cls := findClass_of_methodNamed Bd.named
  have hnm := (name_of_methodNamed Bd.named Bd.method).1
  have X0 : Stand p l e ({ frames := 2, cells := 0, slots := 0, locals := 24 } : Room) s m #[(.ref a), (.int p1), (.int p2)] below meth c s₁ [] 0 0 := Stand.of_body Bd
  have e0 : s₁.heap = h0 := by rw [← hh, Bd.state]; rfl
  have N0 := Fr.nil n0
  show OGo p e below (OPost s (Qp Z a p1 p2 h0 n0) ({ frames := 2, cells := 0, slots := 0, locals := 24 } : Room).cells ({ frames := 2, cells := 0, slots := 0, locals := 24 } : Room).slots) (s₁.setTop (entryFrame m #[(.ref a), (.int p1), (.int p2)] 3))
  refine OGo.step (fun uK kK => castTop (efp m a p1 p2) kK) ?_
  show OGo p e below _ (s₁.setTop (mkF m 0 #[.val (.ref a), .val (.int p1), .val (.int p2)] []))
  refine OGo.step (fun uK kK => XS.aloadN X0.here hx rfl (hb hby d1_0) rfl rfl kK) ?_
  show OGo p e below _ (s₁.setTop (mkF m 1 #[.val (.ref a), .val (.int p1), .val (.int p2)] [(.ref a)]))
  obtain ⟨_, _, ⟨T1, Lq1, kq_1, nq_1⟩, -, X1, ⟨Lc1, hQ1, lq1, yq1, zq1⟩, st1⟩ := X0.specialBack hx (y := (⟨"com/example/graph_of_conflicts/graphofconflicts/sql/Expression", "<init>", "()V"⟩ : MethodName)) rfl hown (mvT hZ (hw _ (List.mem_of_getElem? (i := 6) rfl))) (mvT hZ (hw _ (List.mem_of_getElem? (i := 7) rfl))) (mvT hZ (hw _ (List.mem_of_getElem? (i := 10) rfl))) (by decide) (backOf (W := 0) (rme l Z a0 hw [] a  h0 n0 Z0 ) hZ (hw _ (List.mem_of_getElem? (i := 10) rfl)) (hw _ (List.mem_of_getElem? (i := 9) rfl)) (by decide) (by decide)) (g := (mkF m 1 #[.val (.ref a), .val (.int p1), .val (.int p2)] [(.ref a)])) rfl (by rw [hml]; rfl) (Steps.refl _) (a := a) (argsL := []) (rest := []) (lenOf pdp_0 rfl) rfl (by show 2 * 0 + _ ≤ _; exact Nat.le_of_eq rfl) (hb hby d1_1) (fun _ _ => ⟨rfl, e0, (by decide : 0 + 0 ≤ _), (by decide : 0 + 0 ≤ _)⟩)
  dsimp only [Pt.U, Pt.locs, Pt.cells, Pt.slots] at X1 lq1 yq1 zq1 st1 hQ1
  subst lq1 yq1 zq1
  obtain ⟨rfl, Nq1, e1⟩ := hQ1
  have N1 := Fr.app N0 Nq1
  refine OGo.steps st1 ?_
  show OGo p e below _ (T1.setTop (mkF m 4 #[.val (.ref a), .val (.int p1), .val (.int p2)] []))
  refine OGo.step (fun uK kK => XS.aloadN X1.here hx rfl (hb hby d1_4) rfl rfl kK) ?_
  show OGo p e below _ (T1.setTop (mkF m 5 #[.val (.ref a), .val (.int p1), .val (.int p2)] [(.ref a)]))
  refine OGo.step (fun uK kK => XS.iloadN X1.here hx rfl (hb hby d1_5) rfl kK) ?_
  show OGo p e below _ (T1.setTop (mkF m 6 #[.val (.ref a), .val (.int p1), .val (.int p2)] [(.int p1), (.ref a)]))
  obtain ⟨T2, h2, X2, e2, W2, st2⟩ := putF X1 hx hZ hown (host := "") (Or.inl (hw _ (List.mem_of_getElem? (i := 14) rfl))) Via.refl e1 Fi Ex (Or.inr ⟨(hw _ (List.mem_of_getElem? (i := 15) rfl)), rfl, hnm⟩) (hw _ (List.mem_of_getElem? (i := 1) rfl)) (ty := .int) (by decide) rfl rfl (g := (mkF m 6 #[.val (.ref a), .val (.int p1), .val (.int p2)] [(.int p1), (.ref a)])) rfl rfl (hb hby d1_6)
  have Fw2 := Fi.same W2
  have Fn_4 := (Fn.other W2 (Or.inr (slot_ne (Or.inr (hw _ (List.mem_of_getElem? (i := 17) rfl))) (Or.inr (hw _ (List.mem_of_getElem? (i := 15) rfl))) (by decide) (t := .boolean) (t' := .int) (by decide) (by decide))))
  have Ex_5 := (Ex.wr W2)
  have ZS2 : n0 ≤ h2.size := Nat.le_trans Z0 (Keep.of_wr W2).1
  have KC2 : Keep h0 h2 [a] := (Keep.refl h0 [a]).wr W2 (Or.inl (List.mem_of_getElem? (i := 0) rfl))
  have N2 := Fr.snoc X2 N1 ga
  refine OGo.step (fun uK kK => st2 uK kK) ?_
  show OGo p e below _ (T2.setTop (mkF m 9 #[.val (.ref a), .val (.int p1), .val (.int p2)] []))
  refine OGo.step (fun uK kK => XS.aloadN X2.here hx rfl (hb hby d1_9) rfl rfl kK) ?_
  show OGo p e below _ (T2.setTop (mkF m 10 #[.val (.ref a), .val (.int p1), .val (.int p2)] [(.ref a)]))
  refine OGo.step (fun uK kK => XS.iloadN X2.here hx rfl (hb hby d1_10) rfl kK) ?_
  show OGo p e below _ (T2.setTop (mkF m 11 #[.val (.ref a), .val (.int p1), .val (.int p2)] [(.int p2), (.ref a)]))
  obtain ⟨T6, h6, X6, e6, W6, st6⟩ := putFN X2 hx hZ hown (hw _ (List.mem_of_getElem? (i := 16) rfl)) Via.refl e2 Fn_4 Ex_5 (Or.inr ⟨(hw _ (List.mem_of_getElem? (i := 17) rfl)), rfl, hnm⟩) (hw _ (List.mem_of_getElem? (i := 1) rfl)) (ty := .boolean) (v' := (.int (nar .boolean p2))) (by decide) rfl (fits_nar_bool _) (g := (mkF m 11 #[.val (.ref a), .val (.int p1), .val (.int p2)] [(.int p2), (.ref a)])) rfl rfl (hb hby d1_11)
  have Fw6 := Fn_4.same W6
  have Ex_8 := (Ex_5.wr W6)
  have Fw2_9 := (Fw2.other W6 (Or.inr (slot_ne (Or.inr (hw _ (List.mem_of_getElem? (i := 15) rfl))) (Or.inr (hw _ (List.mem_of_getElem? (i := 17) rfl))) (by decide) (t := .int) (t' := .boolean) (by decide) (by decide))))
  have ZS6 : n0 ≤ h6.size := Nat.le_trans ZS2 (Keep.of_wr W6).1
  have KC6 : Keep h0 h6 [a] := KC2.wr W6 (Or.inl (List.mem_of_getElem? (i := 0) rfl))
  have N6 := Fr.snoc X6 N2 ga
  refine OGo.step (fun uK kK => st6 uK kK) ?_
  show OGo p e below _ (T6.setTop (mkF m 14 #[.val (.ref a), .val (.int p1), .val (.int p2)] []))
  exact OGo.retV X6 hx Bd.notSynchronized Bd.returns (hb hby d1_14) (by decide) (by decide) (by show Qp Z a p1 p2 h0 n0 _ T6.heap _; rw [e6]; exact ⟨rfl, N6, KC6, Fw2_9, Fw6⟩)
theorem d4_0 : decode prog_121_method_1_code 0 = .ok (.aload_n 0, 1) := by decide +kernel
theorem d4_1 : decode prog_121_method_1_code 1 = .ok (.invokespecial 1, 3) := by decide +kernel
theorem d4_4 : decode prog_121_method_1_code 4 = .ok (.aload_n 0, 1) := by decide +kernel
theorem d4_5 : decode prog_121_method_1_code 5 = .ok (.aload_n 1, 1) := by decide +kernel
theorem d4_6 : decode prog_121_method_1_code 6 = .ok (.putfield 7, 3) := by decide +kernel
theorem d4_9 : decode prog_121_method_1_code 9 = .ok (.return_, 1) := by decide +kernel
theorem pnl : plainName "com/example/graph_of_conflicts/graphofconflicts/sql/Expression$Literal" = true := by first | (simp [plainName, overriddenIn]; done) | decide +kernel
theorem pdl_0 : parseMethodDescriptor "()V" = some ⟨[], none⟩ := by decide +kernel
theorem efl (m : MethodId) (x0 : Addr) : entryFrame m #[(.ref x0), .null] 2 = mkF m 0 #[.val (.ref x0), .val .null] [] := by first | (simp [entryFrame, mkF, argsToLocals, Value.category]; done) | rfl
def Ql (Z : State) (a : Addr) (h0 : Heap) (n0 : Nat) (v : Option Value) (h : Heap) (L : List Loc) : Prop := v = none ∧ Fr n0 L ∧ Keep h0 h [a]
set_option maxRecDepth 65536 in
set_option maxHeartbeats 40000000 in
theorem rml (l : Launch) (Z : State) (a0 : Array Value) (hw : ∀ d ∈ tables_1, d.before a0 Z = true) (ws : List Jvm.Cond) (a : Addr) (h0 : Heap) (n0 : Nat) (Z0 : n0 ≤ h0.size) (Fv : Fld Z h0 a "com/example/graph_of_conflicts/graphofconflicts/sql/Expression$Literal" "value" "Lcom/example/graph_of_conflicts/graphofconflicts/api/Value;" .null) (Ex : Exa Z h0 a "com/example/graph_of_conflicts/graphofconflicts/sql/Expression$Literal") (ga : n0 ≤ a) :
    MetFree l (⟨"com/example/graph_of_conflicts/graphofconflicts/sql/Expression$Literal", "<init>", "(Lcom/example/graph_of_conflicts/graphofconflicts/api/Value;)V"⟩ : MethodName) (head1 (Jvm.Cond.code (⟨"com/example/graph_of_conflicts/graphofconflicts/sql/Expression$Literal", "<init>", "(Lcom/example/graph_of_conflicts/graphofconflicts/api/Value;)V"⟩ : MethodName) prog_121_method_1_code 2 none :: ws) ({ frames := 2, cells := 0, slots := 0, locals := 24 } : Room)) (fun aQ UQ => aQ = #[(.ref a), .null] ∧ Z.Warmed39 UQ.vm ∧ UQ.heap = h0) (fun _ _ _ _ _ => True) (fun _ U o U' => ∃ v L, o = .returned v ∧ Ql Z a h0 n0 v U'.heap L ∧ FrameEnd U o U' L ({ frames := 2, cells := 0, slots := 0, locals := 24 } : Room).cells ({ frames := 2, cells := 0, slots := 0, locals := 24 } : Room).slots) := by
  refine MetFree.of_bodySF (plainFor_of_name pnl) hisR ?_
  intro p e s m args below meth c s₁ Bd hml0 hP hK
  obtain ⟨rfl, hZ, hh⟩ := hP
  have hx := Bd.exec
  have hby := Bd.bytes
  have hml : c.maxLocals = 2 := hml0
  have hown : s.vm.findClass "com/example/graph_of_conflicts/graphofconflicts/sql/Expression$Literal" = some m.cls := findClass_of_methodNamed Bd.named
  have hnm := (name_of_methodNamed Bd.named Bd.method).1
  have X0 : Stand p l e ({ frames := 2, cells := 0, slots := 0, locals := 24 } : Room) s m #[(.ref a), .null] below meth c s₁ [] 0 0 := Stand.of_body Bd
  have e0 : s₁.heap = h0 := by rw [← hh, Bd.state]; rfl
  have N0 := Fr.nil n0
  show OGo p e below (OPost s (Ql Z a h0 n0) ({ frames := 2, cells := 0, slots := 0, locals := 24 } : Room).cells ({ frames := 2, cells := 0, slots := 0, locals := 24 } : Room).slots) (s₁.setTop (entryFrame m #[(.ref a), .null] 2))
  refine OGo.step (fun uK kK => castTop (efl m a) kK) ?_
  show OGo p e below _ (s₁.setTop (mkF m 0 #[.val (.ref a), .val .null] []))
  refine OGo.step (fun uK kK => XS.aloadN X0.here hx rfl (hb hby d4_0) rfl rfl kK) ?_
  show OGo p e below _ (s₁.setTop (mkF m 1 #[.val (.ref a), .val .null] [(.ref a)]))
  obtain ⟨_, _, ⟨T1, Lq1, kq_1, nq_1⟩, -, X1, ⟨Lc1, hQ1, lq1, yq1, zq1⟩, st1⟩ := X0.specialBack hx (y := (⟨"com/example/graph_of_conflicts/graphofconflicts/sql/Expression", "<init>", "()V"⟩ : MethodName)) rfl hown (mvT hZ (hw _ (List.mem_of_getElem? (i := 24) rfl))) (mvT hZ (hw _ (List.mem_of_getElem? (i := 7) rfl))) (mvT hZ (hw _ (List.mem_of_getElem? (i := 10) rfl))) (by decide) (backOf (W := 0) (rme l Z a0 hw [] a  h0 n0 Z0 ) hZ (hw _ (List.mem_of_getElem? (i := 10) rfl)) (hw _ (List.mem_of_getElem? (i := 9) rfl)) (by decide) (by decide)) (g := (mkF m 1 #[.val (.ref a), .val .null] [(.ref a)])) rfl (by rw [hml]; rfl) (Steps.refl _) (a := a) (argsL := []) (rest := []) (lenOf pdl_0 rfl) rfl (by show 2 * 0 + _ ≤ _; exact Nat.le_of_eq rfl) (hb hby d4_1) (fun _ _ => ⟨rfl, e0, (by decide : 0 + 0 ≤ _), (by decide : 0 + 0 ≤ _)⟩)
  dsimp only [Pt.U, Pt.locs, Pt.cells, Pt.slots] at X1 lq1 yq1 zq1 st1 hQ1
  subst lq1 yq1 zq1
  obtain ⟨rfl, Nq1, e1⟩ := hQ1
  have N1 := Fr.app N0 Nq1
  refine OGo.steps st1 ?_
  show OGo p e below _ (T1.setTop (mkF m 4 #[.val (.ref a), .val .null] []))
  refine OGo.step (fun uK kK => XS.aloadN X1.here hx rfl (hb hby d4_4) rfl rfl kK) ?_
  show OGo p e below _ (T1.setTop (mkF m 5 #[.val (.ref a), .val .null] [(.ref a)]))
  refine OGo.step (fun uK kK => XS.aloadN X1.here hx rfl (hb hby d4_5) rfl rfl kK) ?_
  show OGo p e below _ (T1.setTop (mkF m 6 #[.val (.ref a), .val .null] [.null, (.ref a)]))
  obtain ⟨T2, h2, X2, e2, W2, st2⟩ := putF X1 hx hZ hown (host := "") (Or.inl (hw _ (List.mem_of_getElem? (i := 25) rfl))) Via.refl e1 Fv Ex (Or.inr ⟨(hw _ (List.mem_of_getElem? (i := 26) rfl)), rfl, hnm⟩) (hw _ (List.mem_of_getElem? (i := 19) rfl)) (ty := (.object "com/example/graph_of_conflicts/graphofconflicts/api/Value")) (by decide) rfl rfl (g := (mkF m 6 #[.val (.ref a), .val .null] [.null, (.ref a)])) rfl rfl (hb hby d4_6)
  have Fw2 := Fv.same W2
  have Ex_4 := (Ex.wr W2)
  have ZS2 : n0 ≤ h2.size := Nat.le_trans Z0 (Keep.of_wr W2).1
  have KC2 : Keep h0 h2 [a] := (Keep.refl h0 [a]).wr W2 (Or.inl (List.mem_of_getElem? (i := 0) rfl))
  have N2 := Fr.snoc X2 N1 ga
  refine OGo.step (fun uK kK => st2 uK kK) ?_
  show OGo p e below _ (T2.setTop (mkF m 9 #[.val (.ref a), .val .null] []))
  exact OGo.retV X2 hx Bd.notSynchronized Bd.returns (hb hby d4_9) (by decide) (by decide) (by show Ql Z a h0 n0 _ T2.heap _; rw [e2]; exact ⟨rfl, N2, KC2⟩)
theorem d5_0 : decode prog_123_method_5_code 0 = .ok (.aload_n 1, 1) := by decide +kernel
theorem d5_1 : decode prog_123_method_5_code 1 = .ok (.instanceof 8, 3) := by decide +kernel
theorem d5_4 : decode prog_123_method_5_code 4 = .ok (.ifCond .eq 34, 3) := by decide +kernel
theorem d5_7 : decode prog_123_method_5_code 7 = .ok (.aload_n 1, 1) := by decide +kernel
theorem d5_8 : decode prog_123_method_5_code 8 = .ok (.checkcast 8, 3) := by decide +kernel
theorem d5_11 : decode prog_123_method_5_code 11 = .ok (.astore_n 2, 1) := by decide +kernel
theorem d5_12 : decode prog_123_method_5_code 12 = .ok (.aload_n 0, 1) := by decide +kernel
theorem d5_13 : decode prog_123_method_5_code 13 = .ok (.getfield 7, 3) := by decide +kernel
theorem d5_16 : decode prog_123_method_5_code 16 = .ok (.aload_n 2, 1) := by decide +kernel
theorem d5_17 : decode prog_123_method_5_code 17 = .ok (.getfield 7, 3) := by decide +kernel
theorem d5_20 : decode prog_123_method_5_code 20 = .ok (.if_icmp .ne 18, 3) := by decide +kernel
theorem d5_23 : decode prog_123_method_5_code 23 = .ok (.aload_n 0, 1) := by decide +kernel
theorem d5_24 : decode prog_123_method_5_code 24 = .ok (.getfield 13, 3) := by decide +kernel
theorem d5_27 : decode prog_123_method_5_code 27 = .ok (.aload_n 2, 1) := by decide +kernel
theorem d5_28 : decode prog_123_method_5_code 28 = .ok (.getfield 13, 3) := by decide +kernel
theorem d5_31 : decode prog_123_method_5_code 31 = .ok (.if_icmp .ne 7, 3) := by decide +kernel
theorem d5_34 : decode prog_123_method_5_code 34 = .ok (.iconst 1, 1) := by decide +kernel
theorem d5_35 : decode prog_123_method_5_code 35 = .ok (.goto 4, 3) := by decide +kernel
theorem d5_38 : decode prog_123_method_5_code 38 = .ok (.iconst 0, 1) := by decide +kernel
theorem d5_39 : decode prog_123_method_5_code 39 = .ok (.ireturn, 1) := by decide +kernel
theorem pnq : plainName "com/example/graph_of_conflicts/graphofconflicts/sql/Expression$Parameter" = true := by first | (simp [plainName, overriddenIn]; done) | decide +kernel
theorem efq (m : MethodId) (x0 : Addr) (x1 : Addr) : entryFrame m #[(.ref x0), (.ref x1)] 3 = mkF m 0 #[.val (.ref x0), .val (.ref x1), .unset] [] := by first | (simp [entryFrame, mkF, argsToLocals, Value.category]; done) | rfl
def Qq (Z : State) (a : Addr) (b : Addr) (i1 : Int32) (m1 : Int32) (i2 : Int32) (m2 : Int32) (h0 : Heap) (n0 : Nat) (v : Option Value) (h : Heap) (L : List Loc) : Prop := v = some (.int (nar .boolean (if i1 = i2 then (if m1 = m2 then (1 : Int32) else (0 : Int32)) else (0 : Int32)))) ∧ Fr n0 L ∧ h = h0
set_option maxRecDepth 65536 in
set_option maxHeartbeats 40000000 in
theorem rmq (l : Launch) (Z : State) (a0 : Array Value) (hw : ∀ d ∈ tables_1, d.before a0 Z = true) (ws : List Jvm.Cond) (a : Addr) (b : Addr) (i1 : Int32) (m1 : Int32) (i2 : Int32) (m2 : Int32) (h0 : Heap) (n0 : Nat) (Z0 : n0 ≤ h0.size) (Fia : Fld Z h0 a "com/example/graph_of_conflicts/graphofconflicts/sql/Expression$Parameter" "index" "I" (.int i1)) (Fna : Fld Z h0 a "com/example/graph_of_conflicts/graphofconflicts/sql/Expression$Parameter" "negated" "Z" (.int m1)) (Fib : Fld Z h0 b "com/example/graph_of_conflicts/graphofconflicts/sql/Expression$Parameter" "index" "I" (.int i2)) (Fnb : Fld Z h0 b "com/example/graph_of_conflicts/graphofconflicts/sql/Expression$Parameter" "negated" "Z" (.int m2)) (Exb : Exa Z h0 b "com/example/graph_of_conflicts/graphofconflicts/sql/Expression$Parameter") :
    MetFree l (⟨"com/example/graph_of_conflicts/graphofconflicts/sql/Expression$Parameter", "equals", "(Ljava/lang/Object;)Z"⟩ : MethodName) (head1 (Jvm.Cond.code (⟨"com/example/graph_of_conflicts/graphofconflicts/sql/Expression$Parameter", "equals", "(Ljava/lang/Object;)Z"⟩ : MethodName) prog_123_method_5_code 3 (some .boolean) :: ws) ({ frames := 0, cells := 0, slots := 0, locals := 0 } : Room)) (fun aQ UQ => aQ = #[(.ref a), (.ref b)] ∧ Z.Warmed39 UQ.vm ∧ UQ.heap = h0) (fun _ _ _ _ _ => True) (fun _ U o U' => ∃ v L, o = .returned v ∧ Qq Z a b i1 m1 i2 m2 h0 n0 v U'.heap L ∧ FrameEnd U o U' L ({ frames := 0, cells := 0, slots := 0, locals := 0 } : Room).cells ({ frames := 0, cells := 0, slots := 0, locals := 0 } : Room).slots) := by
  refine MetFree.of_bodySF (plainFor_of_name pnq) hisR ?_
  intro p e s m args below meth c s₁ Bd hml0 hP hK
  obtain ⟨rfl, hZ, hh⟩ := hP
  have hx := Bd.exec
  have hby := Bd.bytes
  have hml : c.maxLocals = 3 := hml0
  have hown : s.vm.findClass "com/example/graph_of_conflicts/graphofconflicts/sql/Expression$Parameter" = some m.cls := findClass_of_methodNamed Bd.named
  have hnm := (name_of_methodNamed Bd.named Bd.method).1
  have X0 : Stand p l e ({ frames := 0, cells := 0, slots := 0, locals := 0 } : Room) s m #[(.ref a), (.ref b)] below meth c s₁ [] 0 0 := Stand.of_body Bd
  have e0 : s₁.heap = h0 := by rw [← hh, Bd.state]; rfl
  have N0 := Fr.nil n0
  show OGo p e below (OPost s (Qq Z a b i1 m1 i2 m2 h0 n0) ({ frames := 0, cells := 0, slots := 0, locals := 0 } : Room).cells ({ frames := 0, cells := 0, slots := 0, locals := 0 } : Room).slots) (s₁.setTop (entryFrame m #[(.ref a), (.ref b)] 3))
  refine OGo.step (fun uK kK => castTop (efq m a b) kK) ?_
  show OGo p e below _ (s₁.setTop (mkF m 0 #[.val (.ref a), .val (.ref b), .unset] []))
  refine OGo.step (fun uK kK => XS.aloadN X0.here hx rfl (hb hby d5_0) rfl rfl kK) ?_
  show OGo p e below _ (s₁.setTop (mkF m 1 #[.val (.ref a), .val (.ref b), .unset] [(.ref b)]))
  obtain ⟨T1, X1, e1, st1⟩ := instY X0 hx hZ hown (hw _ (List.mem_of_getElem? (i := 32) rfl)) e0 (Ins.self Exb) (g := (mkF m 1 #[.val (.ref a), .val (.ref b), .unset] [(.ref b)])) rfl rfl (hb hby d5_1)
  refine OGo.step (fun uK kK => st1 uK kK) ?_
  show OGo p e below _ (T1.setTop (mkF m 4 #[.val (.ref a), .val (.ref b), .unset] [(.int (1 : Int32))]))
  have hc4 : ¬ ((1 : Int32) = (0 : Int32)) := by decide
  refine OGo.step (fun uK kK => XS.ifNo X1.here hx rfl (hb hby d5_4) rfl ((if0 _ _).trans (feq hc4).1) kK) ?_
  show OGo p e below _ (T1.setTop (mkF m 7 #[.val (.ref a), .val (.ref b), .unset] []))
  refine OGo.step (fun uK kK => XS.aloadN X1.here hx rfl (hb hby d5_7) rfl rfl kK) ?_
  show OGo p e below _ (T1.setTop (mkF m 8 #[.val (.ref a), .val (.ref b), .unset] [(.ref b)]))
  obtain ⟨T2, X2, e2, st2⟩ := castY X1 hx hZ hown (hw _ (List.mem_of_getElem? (i := 32) rfl)) e1 (Ins.self Exb) (g := (mkF m 8 #[.val (.ref a), .val (.ref b), .unset] [(.ref b)])) rfl rfl (hb hby d5_8)
  refine OGo.step (fun uK kK => st2 uK kK) ?_
  show OGo p e below _ (T2.setTop (mkF m 11 #[.val (.ref a), .val (.ref b), .unset] [(.ref b)]))
  refine OGo.step (fun uK kK => XS.astoreN X2.here hx rfl (hb hby d5_11) rfl rfl (l' := #[.val (.ref a), .val (.ref b), .val (.ref b)]) rfl kK) ?_
  show OGo p e below _ (T2.setTop (mkF m 12 #[.val (.ref a), .val (.ref b), .val (.ref b)] []))
  refine OGo.step (fun uK kK => XS.aloadN X2.here hx rfl (hb hby d5_12) rfl rfl kK) ?_
  show OGo p e below _ (T2.setTop (mkF m 13 #[.val (.ref a), .val (.ref b), .val (.ref b)] [(.ref a)]))
  obtain ⟨T3, X3, e3, st3⟩ := getF X2 hx hZ hown (host := "") (Or.inl (hw _ (List.mem_of_getElem? (i := 14) rfl))) Via.refl e2 Fia (g := (mkF m 13 #[.val (.ref a), .val (.ref b), .val (.ref b)] [(.ref a)])) rfl rfl (hb hby d5_13)
  refine OGo.step (fun uK kK => st3 uK kK) ?_
  show OGo p e below _ (T3.setTop (mkF m 16 #[.val (.ref a), .val (.ref b), .val (.ref b)] [(.int i1)]))
  refine OGo.step (fun uK kK => XS.aloadN X3.here hx rfl (hb hby d5_16) rfl rfl kK) ?_
  show OGo p e below _ (T3.setTop (mkF m 17 #[.val (.ref a), .val (.ref b), .val (.ref b)] [(.ref b), (.int i1)]))
  obtain ⟨T4, X4, e4, st4⟩ := getF X3 hx hZ hown (host := "") (Or.inl (hw _ (List.mem_of_getElem? (i := 14) rfl))) Via.refl e3 Fib (g := (mkF m 17 #[.val (.ref a), .val (.ref b), .val (.ref b)] [(.ref b), (.int i1)])) rfl rfl (hb hby d5_17)
  refine OGo.step (fun uK kK => st4 uK kK) ?_
  show OGo p e below _ (T4.setTop (mkF m 20 #[.val (.ref a), .val (.ref b), .val (.ref b)] [(.int i2), (.int i1)]))
  by_cases hc20 : i1 = i2
  · skip
    refine OGo.step (fun uK kK => XS.icmpNo X4.here hx rfl (hb hby d5_20) rfl (teq hc20).2 kK) ?_
    show OGo p e below _ (T4.setTop (mkF m 23 #[.val (.ref a), .val (.ref b), .val (.ref b)] []))
    refine OGo.step (fun uK kK => XS.aloadN X4.here hx rfl (hb hby d5_23) rfl rfl kK) ?_
    show OGo p e below _ (T4.setTop (mkF m 24 #[.val (.ref a), .val (.ref b), .val (.ref b)] [(.ref a)]))
    obtain ⟨T5, X5, e5, st5⟩ := getF X4 hx hZ hown (host := "") (Or.inl (hw _ (List.mem_of_getElem? (i := 16) rfl))) Via.refl e4 Fna (g := (mkF m 24 #[.val (.ref a), .val (.ref b), .val (.ref b)] [(.ref a)])) rfl rfl (hb hby d5_24)
    refine OGo.step (fun uK kK => st5 uK kK) ?_
    show OGo p e below _ (T5.setTop (mkF m 27 #[.val (.ref a), .val (.ref b), .val (.ref b)] [(.int m1)]))
    refine OGo.step (fun uK kK => XS.aloadN X5.here hx rfl (hb hby d5_27) rfl rfl kK) ?_
    show OGo p e below _ (T5.setTop (mkF m 28 #[.val (.ref a), .val (.ref b), .val (.ref b)] [(.ref b), (.int m1)]))
    obtain ⟨T6, X6, e6, st6⟩ := getF X5 hx hZ hown (host := "") (Or.inl (hw _ (List.mem_of_getElem? (i := 16) rfl))) Via.refl e5 Fnb (g := (mkF m 28 #[.val (.ref a), .val (.ref b), .val (.ref b)] [(.ref b), (.int m1)])) rfl rfl (hb hby d5_28)
    refine OGo.step (fun uK kK => st6 uK kK) ?_
    show OGo p e below _ (T6.setTop (mkF m 31 #[.val (.ref a), .val (.ref b), .val (.ref b)] [(.int m2), (.int m1)]))
    by_cases hc31 : m1 = m2
    · skip
      refine OGo.step (fun uK kK => XS.icmpNo X6.here hx rfl (hb hby d5_31) rfl (teq hc31).2 kK) ?_
      show OGo p e below _ (T6.setTop (mkF m 34 #[.val (.ref a), .val (.ref b), .val (.ref b)] []))
      refine OGo.step (fun uK kK => XS.iconst X6.here hx rfl (hb hby d5_34) kK) ?_
      show OGo p e below _ (T6.setTop (mkF m 35 #[.val (.ref a), .val (.ref b), .val (.ref b)] [(.int (1 : Int32))]))
      refine OGo.step (fun uK kK => XS.goto X6.here hx rfl (pc0 := 35) (pc' := 39) rfl (hb hby d5_35) (by decide) (by decide) kK) ?_
      show OGo p e below _ (T6.setTop (mkF m 39 #[.val (.ref a), .val (.ref b), .val (.ref b)] [(.int (1 : Int32))]))
      exact OGo.retN X6 hx Bd.notSynchronized (t := .boolean) Bd.returns (by simp) (hb hby d5_39) (by decide) (by decide) (by show Qq Z a b i1 m1 i2 m2 h0 n0 _ T6.heap _; rw [e6]; exact ⟨by rw [if_pos hc20, if_pos hc31], N0, rfl⟩)
    · skip
      refine OGo.step (fun uK kK => XS.icmpYes X6.here hx rfl (pc0 := 31) (pc' := 38) rfl (hb hby d5_31) rfl (feq hc31).2 (by decide) (by decide) kK) ?_
      show OGo p e below _ (T6.setTop (mkF m 38 #[.val (.ref a), .val (.ref b), .val (.ref b)] []))
      refine OGo.step (fun uK kK => XS.iconst X6.here hx rfl (hb hby d5_38) kK) ?_
      show OGo p e below _ (T6.setTop (mkF m 39 #[.val (.ref a), .val (.ref b), .val (.ref b)] [(.int (0 : Int32))]))
      exact OGo.retN X6 hx Bd.notSynchronized (t := .boolean) Bd.returns (by simp) (hb hby d5_39) (by decide) (by decide) (by show Qq Z a b i1 m1 i2 m2 h0 n0 _ T6.heap _; rw [e6]; exact ⟨by rw [if_pos hc20, if_neg hc31], N0, rfl⟩)
  · skip
    refine OGo.step (fun uK kK => XS.icmpYes X4.here hx rfl (pc0 := 20) (pc' := 38) rfl (hb hby d5_20) rfl (feq hc20).2 (by decide) (by decide) kK) ?_
    show OGo p e below _ (T4.setTop (mkF m 38 #[.val (.ref a), .val (.ref b), .val (.ref b)] []))
    refine OGo.step (fun uK kK => XS.iconst X4.here hx rfl (hb hby d5_38) kK) ?_
    show OGo p e below _ (T4.setTop (mkF m 39 #[.val (.ref a), .val (.ref b), .val (.ref b)] [(.int (0 : Int32))]))
    exact OGo.retN X4 hx Bd.notSynchronized (t := .boolean) Bd.returns (by simp) (hb hby d5_39) (by decide) (by decide) (by show Qq Z a b i1 m1 i2 m2 h0 n0 _ T4.heap _; rw [e4]; exact ⟨by rw [if_neg hc20], N0, rfl⟩)
theorem pnn : plainName "com/example/graph_of_conflicts/graphofconflicts/sql/Expression$Parameter" = true := by first | (simp [plainName, overriddenIn]; done) | decide +kernel
theorem efn (m : MethodId) (x0 : Addr) : entryFrame m #[(.ref x0), .null] 3 = mkF m 0 #[.val (.ref x0), .val .null, .unset] [] := by first | (simp [entryFrame, mkF, argsToLocals, Value.category]; done) | rfl
def Qn (Z : State) (a : Addr) (h0 : Heap) (n0 : Nat) (v : Option Value) (h : Heap) (L : List Loc) : Prop := v = some (.int (nar .boolean (0 : Int32))) ∧ Fr n0 L ∧ h = h0
set_option maxRecDepth 65536 in
set_option maxHeartbeats 40000000 in
theorem rmn (l : Launch) (Z : State) (a0 : Array Value) (hw : ∀ d ∈ tables_1, d.before a0 Z = true) (ws : List Jvm.Cond) (a : Addr) (h0 : Heap) (n0 : Nat) (Z0 : n0 ≤ h0.size) :
    MetFree l (⟨"com/example/graph_of_conflicts/graphofconflicts/sql/Expression$Parameter", "equals", "(Ljava/lang/Object;)Z"⟩ : MethodName) (head1 (Jvm.Cond.code (⟨"com/example/graph_of_conflicts/graphofconflicts/sql/Expression$Parameter", "equals", "(Ljava/lang/Object;)Z"⟩ : MethodName) prog_123_method_5_code 3 (some .boolean) :: ws) ({ frames := 0, cells := 0, slots := 0, locals := 0 } : Room)) (fun aQ UQ => aQ = #[(.ref a), .null] ∧ Z.Warmed39 UQ.vm ∧ UQ.heap = h0) (fun _ _ _ _ _ => True) (fun _ U o U' => ∃ v L, o = .returned v ∧ Qn Z a h0 n0 v U'.heap L ∧ FrameEnd U o U' L ({ frames := 0, cells := 0, slots := 0, locals := 0 } : Room).cells ({ frames := 0, cells := 0, slots := 0, locals := 0 } : Room).slots) := by
  refine MetFree.of_bodySF (plainFor_of_name pnn) hisR ?_
  intro p e s m args below meth c s₁ Bd hml0 hP hK
  obtain ⟨rfl, hZ, hh⟩ := hP
  have hx := Bd.exec
  have hby := Bd.bytes
  have hml : c.maxLocals = 3 := hml0
  have hown : s.vm.findClass "com/example/graph_of_conflicts/graphofconflicts/sql/Expression$Parameter" = some m.cls := findClass_of_methodNamed Bd.named
  have hnm := (name_of_methodNamed Bd.named Bd.method).1
  have X0 : Stand p l e ({ frames := 0, cells := 0, slots := 0, locals := 0 } : Room) s m #[(.ref a), .null] below meth c s₁ [] 0 0 := Stand.of_body Bd
  have e0 : s₁.heap = h0 := by rw [← hh, Bd.state]; rfl
  have N0 := Fr.nil n0
  show OGo p e below (OPost s (Qn Z a h0 n0) ({ frames := 0, cells := 0, slots := 0, locals := 0 } : Room).cells ({ frames := 0, cells := 0, slots := 0, locals := 0 } : Room).slots) (s₁.setTop (entryFrame m #[(.ref a), .null] 3))
  refine OGo.step (fun uK kK => castTop (efn m a) kK) ?_
  show OGo p e below _ (s₁.setTop (mkF m 0 #[.val (.ref a), .val .null, .unset] []))
  refine OGo.step (fun uK kK => XS.aloadN X0.here hx rfl (hb hby d5_0) rfl rfl kK) ?_
  show OGo p e below _ (s₁.setTop (mkF m 1 #[.val (.ref a), .val .null, .unset] [.null]))
  refine OGo.step (fun uK kK => X0.instanceofNull hx (g := (mkF m 1 #[.val (.ref a), .val .null, .unset] [.null])) rfl rfl (hb hby d5_1) uK kK) ?_
  show OGo p e below _ (s₁.setTop (mkF m 4 #[.val (.ref a), .val .null, .unset] [(.int (0 : Int32))]))
  have hc4 : (0 : Int32) = (0 : Int32) := by decide
  refine OGo.step (fun uK kK => XS.ifYes X0.here hx rfl (pc0 := 4) (pc' := 38) rfl (hb hby d5_4) rfl ((if0 _ _).trans (teq hc4).1) (by decide) (by decide) kK) ?_
  show OGo p e below _ (s₁.setTop (mkF m 38 #[.val (.ref a), .val .null, .unset] []))
  refine OGo.step (fun uK kK => XS.iconst X0.here hx rfl (hb hby d5_38) kK) ?_
  show OGo p e below _ (s₁.setTop (mkF m 39 #[.val (.ref a), .val .null, .unset] [(.int (0 : Int32))]))
  exact OGo.retN X0 hx Bd.notSynchronized (t := .boolean) Bd.returns (by simp) (hb hby d5_39) (by decide) (by decide) (by show Qn Z a h0 n0 _ s₁.heap _; rw [e0]; exact ⟨rfl, N0, rfl⟩)
theorem pnt : plainName "com/example/graph_of_conflicts/graphofconflicts/sql/Expression$Parameter" = true := by first | (simp [plainName, overriddenIn]; done) | decide +kernel
theorem eft (m : MethodId) (x0 : Addr) (x1 : Addr) : entryFrame m #[(.ref x0), (.ref x1)] 3 = mkF m 0 #[.val (.ref x0), .val (.ref x1), .unset] [] := by first | (simp [entryFrame, mkF, argsToLocals, Value.category]; done) | rfl
def Qt (Z : State) (a : Addr) (b : Addr) (h0 : Heap) (n0 : Nat) (v : Option Value) (h : Heap) (L : List Loc) : Prop := v = some (.int (nar .boolean (0 : Int32))) ∧ Fr n0 L ∧ h = h0
set_option maxRecDepth 65536 in
set_option maxHeartbeats 40000000 in
theorem rmt (l : Launch) (Z : State) (a0 : Array Value) (hw : ∀ d ∈ tables_1, d.before a0 Z = true) (ws : List Jvm.Cond) (a : Addr) (b : Addr) (h0 : Heap) (n0 : Nat) (Z0 : n0 ≤ h0.size) (Exb : Exa Z h0 b "com/example/graph_of_conflicts/graphofconflicts/sql/Expression$Literal") :
    MetFree l (⟨"com/example/graph_of_conflicts/graphofconflicts/sql/Expression$Parameter", "equals", "(Ljava/lang/Object;)Z"⟩ : MethodName) (head1 (Jvm.Cond.code (⟨"com/example/graph_of_conflicts/graphofconflicts/sql/Expression$Parameter", "equals", "(Ljava/lang/Object;)Z"⟩ : MethodName) prog_123_method_5_code 3 (some .boolean) :: ws) ({ frames := 0, cells := 0, slots := 0, locals := 0 } : Room)) (fun aQ UQ => aQ = #[(.ref a), (.ref b)] ∧ Z.Warmed39 UQ.vm ∧ UQ.heap = h0) (fun _ _ _ _ _ => True) (fun _ U o U' => ∃ v L, o = .returned v ∧ Qt Z a b h0 n0 v U'.heap L ∧ FrameEnd U o U' L ({ frames := 0, cells := 0, slots := 0, locals := 0 } : Room).cells ({ frames := 0, cells := 0, slots := 0, locals := 0 } : Room).slots) := by
  refine MetFree.of_bodySF (plainFor_of_name pnt) hisR ?_
  intro p e s m args below meth c s₁ Bd hml0 hP hK
  obtain ⟨rfl, hZ, hh⟩ := hP
  have hx := Bd.exec
  have hby := Bd.bytes
  have hml : c.maxLocals = 3 := hml0
  have hown : s.vm.findClass "com/example/graph_of_conflicts/graphofconflicts/sql/Expression$Parameter" = some m.cls := findClass_of_methodNamed Bd.named
  have hnm := (name_of_methodNamed Bd.named Bd.method).1
  have X0 : Stand p l e ({ frames := 0, cells := 0, slots := 0, locals := 0 } : Room) s m #[(.ref a), (.ref b)] below meth c s₁ [] 0 0 := Stand.of_body Bd
  have e0 : s₁.heap = h0 := by rw [← hh, Bd.state]; rfl
  have N0 := Fr.nil n0
  show OGo p e below (OPost s (Qt Z a b h0 n0) ({ frames := 0, cells := 0, slots := 0, locals := 0 } : Room).cells ({ frames := 0, cells := 0, slots := 0, locals := 0 } : Room).slots) (s₁.setTop (entryFrame m #[(.ref a), (.ref b)] 3))
  refine OGo.step (fun uK kK => castTop (eft m a b) kK) ?_
  show OGo p e below _ (s₁.setTop (mkF m 0 #[.val (.ref a), .val (.ref b), .unset] []))
  refine OGo.step (fun uK kK => XS.aloadN X0.here hx rfl (hb hby d5_0) rfl rfl kK) ?_
  show OGo p e below _ (s₁.setTop (mkF m 1 #[.val (.ref a), .val (.ref b), .unset] [(.ref b)]))
  obtain ⟨T1, X1, e1, st1⟩ := instNo X0 hx hZ hown (hw _ (List.mem_of_getElem? (i := 32) rfl)) e0 Exb (own_no (hw _ (List.mem_of_getElem? (i := 34) rfl)) (hw _ (List.mem_of_getElem? (i := 1) rfl)) (NS.step (hw _ (List.mem_of_getElem? (i := 34) rfl)) (NS.step (hw _ (List.mem_of_getElem? (i := 35) rfl)) (own_root (hw _ (List.mem_of_getElem? (i := 36) rfl)) (hw _ (List.mem_of_getElem? (i := 1) rfl)) (by decide)) (by decide)) (by decide)) (by decide)) (g := (mkF m 1 #[.val (.ref a), .val (.ref b), .unset] [(.ref b)])) rfl rfl (hb hby d5_1)
  refine OGo.step (fun uK kK => st1 uK kK) ?_
  show OGo p e below _ (T1.setTop (mkF m 4 #[.val (.ref a), .val (.ref b), .unset] [(.int (0 : Int32))]))
  have hc4 : (0 : Int32) = (0 : Int32) := by decide
  refine OGo.step (fun uK kK => XS.ifYes X1.here hx rfl (pc0 := 4) (pc' := 38) rfl (hb hby d5_4) rfl ((if0 _ _).trans (teq hc4).1) (by decide) (by decide) kK) ?_
  show OGo p e below _ (T1.setTop (mkF m 38 #[.val (.ref a), .val (.ref b), .unset] []))
  refine OGo.step (fun uK kK => XS.iconst X1.here hx rfl (hb hby d5_38) kK) ?_
  show OGo p e below _ (T1.setTop (mkF m 39 #[.val (.ref a), .val (.ref b), .unset] [(.int (0 : Int32))]))
  exact OGo.retN X1 hx Bd.notSynchronized (t := .boolean) Bd.returns (by simp) (hb hby d5_39) (by decide) (by decide) (by show Qt Z a b h0 n0 _ T1.heap _; rw [e1]; exact ⟨rfl, N0, rfl⟩)
theorem pn0 : plainName "com/example/graph_of_conflicts/graphofconflicts/sql/ParameterEqualsPinLaw" = true := by first | (simp [plainName, overriddenIn]; done) | decide +kernel
theorem pd0_0 : parseMethodDescriptor "(IZ)V" = some ⟨[.int, .boolean], none⟩ := by decide +kernel
theorem pd0_1 : parseMethodDescriptor "(Lcom/example/graph_of_conflicts/graphofconflicts/api/Value;)V" = some ⟨[(.object "com/example/graph_of_conflicts/graphofconflicts/api/Value")], none⟩ := by decide +kernel
theorem pd0_2 : parseMethodDescriptor "(Ljava/lang/Object;)Z" = some ⟨[(.object "java/lang/Object")], some .boolean⟩ := by decide +kernel
theorem ef0 (m : MethodId) (x0 : Int32) (x1 : Int32) (x2 : Int32) : entryFrame m #[(.int x0), (.int x1), (.int x2)] maxLocals = mkF m 0 #[.val (.int x0), .val (.int x1), .val (.int x2), .unset, .unset, .unset, .unset, .unset, .unset, .unset, .unset] [] := by first | (simp [entryFrame, mkF, argsToLocals, Value.category, maxLocals]; done) | rfl
def Q0 (Z : State) (i0 : Int32) (j0 : Int32) (fl : Int32) (h0 : Heap) (n0 : Nat) (v : Option Value) (h : Heap) (L : List Loc) : Prop := v = some (.int 1) ∧ Fr n0 L
set_option maxRecDepth 65536 in
set_option maxHeartbeats 40000000 in
theorem rm0 (l : Launch) (Z : State) (a0 : Array Value) (hw : ∀ d ∈ tables_1, d.before a0 Z = true) (ws : List Jvm.Cond) (i0 : Int32) (j0 : Int32) (fl : Int32) (h0 : Heap) (n0 : Nat) (Z0 : n0 ≤ h0.size) :
    MetFree l x (head1 (Jvm.Cond.code x code maxLocals ret :: ws) room_1) (fun aQ UQ => aQ = #[(.int i0), (.int j0), (.int fl)] ∧ Z.Warmed39 UQ.vm ∧ UQ.heap = h0) (fun _ _ _ _ _ => True) (fun _ U o U' => ∃ v L, o = .returned v ∧ Q0 Z i0 j0 fl h0 n0 v U'.heap L ∧ FrameEnd U o U' L room_1.cells room_1.slots) := by
  refine MetFree.of_bodySF (plainFor_of_name pn0) hisR ?_
  intro p e s m args below meth c s₁ Bd hml0 hP hK
  obtain ⟨rfl, hZ, hh⟩ := hP
  have hx := Bd.exec
  have hby := Bd.bytes
  have hml : c.maxLocals = 11 := hml0
  have hown : s.vm.findClass "com/example/graph_of_conflicts/graphofconflicts/sql/ParameterEqualsPinLaw" = some m.cls := findClass_of_methodNamed Bd.named
  have hnm := (name_of_methodNamed Bd.named Bd.method).1
  have X0 : Stand p l e room_1 s m #[(.int i0), (.int j0), (.int fl)] below meth c s₁ [] 0 0 := Stand.of_body Bd
  have e0 : s₁.heap = h0 := by rw [← hh, Bd.state]; rfl
  have N0 := Fr.nil n0
  show OGo p e below (OPost s (Q0 Z i0 j0 fl h0 n0) room_1.cells room_1.slots) (s₁.setTop (entryFrame m #[(.int i0), (.int j0), (.int fl)] maxLocals))
  refine OGo.step (fun uK kK => castTop (ef0 m i0 j0 fl) kK) ?_
  show OGo p e below _ (s₁.setTop (mkF m 0 #[.val (.int i0), .val (.int j0), .val (.int fl), .unset, .unset, .unset, .unset, .unset, .unset, .unset, .unset] []))
  refine OGo.step (fun uK kK => XS.iloadN X0.here hx rfl (hb hby at_0) rfl kK) ?_
  show OGo p e below _ (s₁.setTop (mkF m 1 #[.val (.int i0), .val (.int j0), .val (.int fl), .unset, .unset, .unset, .unset, .unset, .unset, .unset, .unset] [(.int fl)]))
  refine OGo.step (fun uK kK => XS.iconst X0.here hx rfl (hb hby at_1) kK) ?_
  show OGo p e below _ (s₁.setTop (mkF m 2 #[.val (.int i0), .val (.int j0), .val (.int fl), .unset, .unset, .unset, .unset, .unset, .unset, .unset, .unset] [(.int (1 : Int32)), (.int fl)]))
  refine OGo.step (fun uK kK => XS.iand X0.here hx rfl (hb hby at_2) rfl kK) ?_
  show OGo p e below _ (s₁.setTop (mkF m 3 #[.val (.int i0), .val (.int j0), .val (.int fl), .unset, .unset, .unset, .unset, .unset, .unset, .unset, .unset] [(.int (fl &&& (1 : Int32)))]))
  refine OGo.step (t' := s₁.setTop (mkF m 11 #[.val (.int i0), .val (.int j0), .val (.int fl), .unset, .unset, .unset, .unset, .unset, .unset, .unset, .unset] [(.int (if (fl &&& (1 : Int32)) = (0 : Int32) then (0 : Int32) else (1 : Int32)))])) (fun uK kK => ?_) ?_
  · show Steps p.tables e below (s₁.setTop (mkF m 3 #[.val (.int i0), .val (.int j0), .val (.int fl), .unset, .unset, .unset, .unset, .unset, .unset, .unset, .unset] [(.int (fl &&& (1 : Int32)))])) _
    by_cases hm3_1 : (fl &&& (1 : Int32)) = (0 : Int32)
    · try rw [if_pos hm3_1] at kK
      refine XS.ifYes X0.here hx rfl (pc0 := 3) (pc' := 10) rfl (hb hby at_3) rfl ((if0 _ _).trans (teq hm3_1).1) (by decide) (by decide) ?_
      refine XS.iconst X0.here hx rfl (hb hby at_10) ?_
      show Steps p.tables e below (s₁.setTop (mkF m 11 #[.val (.int i0), .val (.int j0), .val (.int fl), .unset, .unset, .unset, .unset, .unset, .unset, .unset, .unset] [(.int (0 : Int32))])) _
      exact kK
    · try rw [if_neg hm3_1] at kK
      refine XS.ifNo X0.here hx rfl (hb hby at_3) rfl ((if0 _ _).trans (feq hm3_1).1) ?_
      refine XS.iconst X0.here hx rfl (hb hby at_6) ?_
      show Steps p.tables e below (s₁.setTop (mkF m 7 #[.val (.int i0), .val (.int j0), .val (.int fl), .unset, .unset, .unset, .unset, .unset, .unset, .unset, .unset] [(.int (1 : Int32))])) _
      refine XS.goto X0.here hx rfl (pc0 := 7) (pc' := 11) rfl (hb hby at_7) (by decide) (by decide) ?_
      show Steps p.tables e below (s₁.setTop (mkF m 11 #[.val (.int i0), .val (.int j0), .val (.int fl), .unset, .unset, .unset, .unset, .unset, .unset, .unset, .unset] [(.int (1 : Int32))])) _
      exact kK
  show OGo p e below _ (s₁.setTop (mkF m 11 #[.val (.int i0), .val (.int j0), .val (.int fl), .unset, .unset, .unset, .unset, .unset, .unset, .unset, .unset] [(.int (if (fl &&& (1 : Int32)) = (0 : Int32) then (0 : Int32) else (1 : Int32)))]))
  obtain ⟨n1, ev_n1⟩ : ∃ z : Int32, z = (if (fl &&& (1 : Int32)) = (0 : Int32) then (0 : Int32) else (1 : Int32)) := ⟨_, rfl⟩
  rw [← ev_n1]
  show OGo p e below _ (s₁.setTop (mkF m 11 #[.val (.int i0), .val (.int j0), .val (.int fl), .unset, .unset, .unset, .unset, .unset, .unset, .unset, .unset] [(.int n1)]))
  refine OGo.step (fun uK kK => XS.istoreN X0.here hx rfl (hb hby at_11) rfl (l' := #[.val (.int i0), .val (.int j0), .val (.int fl), .val (.int n1), .unset, .unset, .unset, .unset, .unset, .unset, .unset]) rfl kK) ?_
  show OGo p e below _ (s₁.setTop (mkF m 12 #[.val (.int i0), .val (.int j0), .val (.int fl), .val (.int n1), .unset, .unset, .unset, .unset, .unset, .unset, .unset] []))
  refine OGo.step (fun uK kK => XS.iloadN X0.here hx rfl (hb hby at_12) rfl kK) ?_
  show OGo p e below _ (s₁.setTop (mkF m 13 #[.val (.int i0), .val (.int j0), .val (.int fl), .val (.int n1), .unset, .unset, .unset, .unset, .unset, .unset, .unset] [(.int fl)]))
  refine OGo.step (fun uK kK => XS.iconst X0.here hx rfl (hb hby at_13) kK) ?_
  show OGo p e below _ (s₁.setTop (mkF m 14 #[.val (.int i0), .val (.int j0), .val (.int fl), .val (.int n1), .unset, .unset, .unset, .unset, .unset, .unset, .unset] [(.int (2 : Int32)), (.int fl)]))
  refine OGo.step (fun uK kK => XS.iand X0.here hx rfl (hb hby at_14) rfl kK) ?_
  show OGo p e below _ (s₁.setTop (mkF m 15 #[.val (.int i0), .val (.int j0), .val (.int fl), .val (.int n1), .unset, .unset, .unset, .unset, .unset, .unset, .unset] [(.int (fl &&& (2 : Int32)))]))
  refine OGo.step (t' := s₁.setTop (mkF m 23 #[.val (.int i0), .val (.int j0), .val (.int fl), .val (.int n1), .unset, .unset, .unset, .unset, .unset, .unset, .unset] [(.int (if (fl &&& (2 : Int32)) = (0 : Int32) then (0 : Int32) else (1 : Int32)))])) (fun uK kK => ?_) ?_
  · show Steps p.tables e below (s₁.setTop (mkF m 15 #[.val (.int i0), .val (.int j0), .val (.int fl), .val (.int n1), .unset, .unset, .unset, .unset, .unset, .unset, .unset] [(.int (fl &&& (2 : Int32)))])) _
    by_cases hm15_2 : (fl &&& (2 : Int32)) = (0 : Int32)
    · try rw [if_pos hm15_2] at kK
      refine XS.ifYes X0.here hx rfl (pc0 := 15) (pc' := 22) rfl (hb hby at_15) rfl ((if0 _ _).trans (teq hm15_2).1) (by decide) (by decide) ?_
      refine XS.iconst X0.here hx rfl (hb hby at_22) ?_
      show Steps p.tables e below (s₁.setTop (mkF m 23 #[.val (.int i0), .val (.int j0), .val (.int fl), .val (.int n1), .unset, .unset, .unset, .unset, .unset, .unset, .unset] [(.int (0 : Int32))])) _
      exact kK
    · try rw [if_neg hm15_2] at kK
      refine XS.ifNo X0.here hx rfl (hb hby at_15) rfl ((if0 _ _).trans (feq hm15_2).1) ?_
      refine XS.iconst X0.here hx rfl (hb hby at_18) ?_
      show Steps p.tables e below (s₁.setTop (mkF m 19 #[.val (.int i0), .val (.int j0), .val (.int fl), .val (.int n1), .unset, .unset, .unset, .unset, .unset, .unset, .unset] [(.int (1 : Int32))])) _
      refine XS.goto X0.here hx rfl (pc0 := 19) (pc' := 23) rfl (hb hby at_19) (by decide) (by decide) ?_
      show Steps p.tables e below (s₁.setTop (mkF m 23 #[.val (.int i0), .val (.int j0), .val (.int fl), .val (.int n1), .unset, .unset, .unset, .unset, .unset, .unset, .unset] [(.int (1 : Int32))])) _
      exact kK
  show OGo p e below _ (s₁.setTop (mkF m 23 #[.val (.int i0), .val (.int j0), .val (.int fl), .val (.int n1), .unset, .unset, .unset, .unset, .unset, .unset, .unset] [(.int (if (fl &&& (2 : Int32)) = (0 : Int32) then (0 : Int32) else (1 : Int32)))]))
  obtain ⟨n2, ev_n2⟩ : ∃ z : Int32, z = (if (fl &&& (2 : Int32)) = (0 : Int32) then (0 : Int32) else (1 : Int32)) := ⟨_, rfl⟩
  rw [← ev_n2]
  show OGo p e below _ (s₁.setTop (mkF m 23 #[.val (.int i0), .val (.int j0), .val (.int fl), .val (.int n1), .unset, .unset, .unset, .unset, .unset, .unset, .unset] [(.int n2)]))
  refine OGo.step (fun uK kK => XS.istore X0.here hx rfl (hb hby at_23) rfl (l' := #[.val (.int i0), .val (.int j0), .val (.int fl), .val (.int n1), .val (.int n2), .unset, .unset, .unset, .unset, .unset, .unset]) rfl kK) ?_
  show OGo p e below _ (s₁.setTop (mkF m 25 #[.val (.int i0), .val (.int j0), .val (.int fl), .val (.int n1), .val (.int n2), .unset, .unset, .unset, .unset, .unset, .unset] []))
  refine OGo.step (fun uK kK => XS.iloadN X0.here hx rfl (hb hby at_25) rfl kK) ?_
  show OGo p e below _ (s₁.setTop (mkF m 26 #[.val (.int i0), .val (.int j0), .val (.int fl), .val (.int n1), .val (.int n2), .unset, .unset, .unset, .unset, .unset, .unset] [(.int fl)]))
  refine OGo.step (fun uK kK => XS.iconst X0.here hx rfl (hb hby at_26) kK) ?_
  show OGo p e below _ (s₁.setTop (mkF m 27 #[.val (.int i0), .val (.int j0), .val (.int fl), .val (.int n1), .val (.int n2), .unset, .unset, .unset, .unset, .unset, .unset] [(.int (4 : Int32)), (.int fl)]))
  refine OGo.step (fun uK kK => XS.iand X0.here hx rfl (hb hby at_27) rfl kK) ?_
  show OGo p e below _ (s₁.setTop (mkF m 28 #[.val (.int i0), .val (.int j0), .val (.int fl), .val (.int n1), .val (.int n2), .unset, .unset, .unset, .unset, .unset, .unset] [(.int (fl &&& (4 : Int32)))]))
  refine OGo.step (t' := s₁.setTop (mkF m 36 #[.val (.int i0), .val (.int j0), .val (.int fl), .val (.int n1), .val (.int n2), .unset, .unset, .unset, .unset, .unset, .unset] [(.int (if (fl &&& (4 : Int32)) = (0 : Int32) then j0 else i0))])) (fun uK kK => ?_) ?_
  · show Steps p.tables e below (s₁.setTop (mkF m 28 #[.val (.int i0), .val (.int j0), .val (.int fl), .val (.int n1), .val (.int n2), .unset, .unset, .unset, .unset, .unset, .unset] [(.int (fl &&& (4 : Int32)))])) _
    by_cases hm28_3 : (fl &&& (4 : Int32)) = (0 : Int32)
    · try rw [if_pos hm28_3] at kK
      refine XS.ifYes X0.here hx rfl (pc0 := 28) (pc' := 35) rfl (hb hby at_28) rfl ((if0 _ _).trans (teq hm28_3).1) (by decide) (by decide) ?_
      refine XS.iloadN X0.here hx rfl (hb hby at_35) rfl ?_
      show Steps p.tables e below (s₁.setTop (mkF m 36 #[.val (.int i0), .val (.int j0), .val (.int fl), .val (.int n1), .val (.int n2), .unset, .unset, .unset, .unset, .unset, .unset] [(.int j0)])) _
      exact kK
    · try rw [if_neg hm28_3] at kK
      refine XS.ifNo X0.here hx rfl (hb hby at_28) rfl ((if0 _ _).trans (feq hm28_3).1) ?_
      refine XS.iloadN X0.here hx rfl (hb hby at_31) rfl ?_
      show Steps p.tables e below (s₁.setTop (mkF m 32 #[.val (.int i0), .val (.int j0), .val (.int fl), .val (.int n1), .val (.int n2), .unset, .unset, .unset, .unset, .unset, .unset] [(.int i0)])) _
      refine XS.goto X0.here hx rfl (pc0 := 32) (pc' := 36) rfl (hb hby at_32) (by decide) (by decide) ?_
      show Steps p.tables e below (s₁.setTop (mkF m 36 #[.val (.int i0), .val (.int j0), .val (.int fl), .val (.int n1), .val (.int n2), .unset, .unset, .unset, .unset, .unset, .unset] [(.int i0)])) _
      exact kK
  show OGo p e below _ (s₁.setTop (mkF m 36 #[.val (.int i0), .val (.int j0), .val (.int fl), .val (.int n1), .val (.int n2), .unset, .unset, .unset, .unset, .unset, .unset] [(.int (if (fl &&& (4 : Int32)) = (0 : Int32) then j0 else i0))]))
  obtain ⟨kk, ev_kk⟩ : ∃ z : Int32, z = (if (fl &&& (4 : Int32)) = (0 : Int32) then j0 else i0) := ⟨_, rfl⟩
  rw [← ev_kk]
  show OGo p e below _ (s₁.setTop (mkF m 36 #[.val (.int i0), .val (.int j0), .val (.int fl), .val (.int n1), .val (.int n2), .unset, .unset, .unset, .unset, .unset, .unset] [(.int kk)]))
  refine OGo.step (fun uK kK => XS.istore X0.here hx rfl (hb hby at_36) rfl (l' := #[.val (.int i0), .val (.int j0), .val (.int fl), .val (.int n1), .val (.int n2), .val (.int kk), .unset, .unset, .unset, .unset, .unset]) rfl kK) ?_
  show OGo p e below _ (s₁.setTop (mkF m 38 #[.val (.int i0), .val (.int j0), .val (.int fl), .val (.int n1), .val (.int n2), .val (.int kk), .unset, .unset, .unset, .unset, .unset] []))
  obtain ⟨T4, h4, X4, e4, E4, A4, D4, -, st4⟩ := newO X0 hx hZ hown (hw _ (List.mem_of_getElem? (i := 0) rfl)) (hw _ (List.mem_of_getElem? (i := 1) rfl)) (hw _ (List.mem_of_getElem? (i := 2) rfl)) e0 (g := (mkF m 38 #[.val (.int i0), .val (.int j0), .val (.int fl), .val (.int n1), .val (.int n2), .val (.int kk), .unset, .unset, .unset, .unset, .unset] [])) rfl (hb hby at_38) (by decide) (by decide)
  obtain ⟨b4, g4⟩ : ∃ z, z = h0.size := ⟨_, rfl⟩
  rw [← g4] at A4 D4 st4
  have gn_b4 : n0 ≤ b4 := Nat.le_trans Z0 (Nat.le_of_eq g4.symm)
  have sz_b4 : h0.size ≤ b4 := Nat.le_trans (Keep.refl h0 []).1 (Nat.le_of_eq g4.symm)
  have ZS4 : n0 ≤ h4.size := Nat.le_trans Z0 E4.1
  have KC4 : Keep h0 h4 [] := (Keep.refl h0 []).ext E4
  have Findex_b4 : Fld Z h4 b4 "com/example/graph_of_conflicts/graphofconflicts/sql/Expression$Parameter" "index" "I" (.int (0 : Int32)) := D4 (Or.inr (hw _ (List.mem_of_getElem? (i := 15) rfl))) (ty := .int) (by decide)
  have Fnegated_b4 : Fld Z h4 b4 "com/example/graph_of_conflicts/graphofconflicts/sql/Expression$Parameter" "negated" "Z" (.int (0 : Int32)) := D4 (Or.inr (hw _ (List.mem_of_getElem? (i := 17) rfl))) (ty := .boolean) (by decide)
  refine OGo.step (fun uK kK => st4 uK kK) ?_
  show OGo p e below _ (T4.setTop (mkF m 41 #[.val (.int i0), .val (.int j0), .val (.int fl), .val (.int n1), .val (.int n2), .val (.int kk), .unset, .unset, .unset, .unset, .unset] [(.ref b4)]))
  refine OGo.step (fun uK kK => XS.dup X4.here hx rfl (hb hby at_41) rfl rfl kK) ?_
  show OGo p e below _ (T4.setTop (mkF m 42 #[.val (.int i0), .val (.int j0), .val (.int fl), .val (.int n1), .val (.int n2), .val (.int kk), .unset, .unset, .unset, .unset, .unset] [(.ref b4), (.ref b4)]))
  refine OGo.step (fun uK kK => XS.iloadN X4.here hx rfl (hb hby at_42) rfl kK) ?_
  show OGo p e below _ (T4.setTop (mkF m 43 #[.val (.int i0), .val (.int j0), .val (.int fl), .val (.int n1), .val (.int n2), .val (.int kk), .unset, .unset, .unset, .unset, .unset] [(.int i0), (.ref b4), (.ref b4)]))
  refine OGo.step (fun uK kK => XS.iloadN X4.here hx rfl (hb hby at_43) rfl kK) ?_
  show OGo p e below _ (T4.setTop (mkF m 44 #[.val (.int i0), .val (.int j0), .val (.int fl), .val (.int n1), .val (.int n2), .val (.int kk), .unset, .unset, .unset, .unset, .unset] [(.int n1), (.int i0), (.ref b4), (.ref b4)]))
  obtain ⟨_, _, ⟨T5, Lq5, kq_5, nq_5⟩, -, X5, ⟨Lc5, hQ5, lq5, yq5, zq5⟩, st5⟩ := X4.specialBack hx (y := (⟨"com/example/graph_of_conflicts/graphofconflicts/sql/Expression$Parameter", "<init>", "(IZ)V"⟩ : MethodName)) rfl hown (mvT hZ (hw _ (List.mem_of_getElem? (i := 3) rfl))) (mvT hZ (hw _ (List.mem_of_getElem? (i := 4) rfl))) (mvT hZ (hw _ (List.mem_of_getElem? (i := 5) rfl))) (by decide) (backOf (W := 1) (rmp l Z a0 hw [] b4 i0 n1  h4 n0 ZS4 Findex_b4 Fnegated_b4 A4 gn_b4) hZ (hw _ (List.mem_of_getElem? (i := 5) rfl)) (hw _ (List.mem_of_getElem? (i := 2) rfl)) (by decide) (by decide)) (g := (mkF m 44 #[.val (.int i0), .val (.int j0), .val (.int fl), .val (.int n1), .val (.int n2), .val (.int kk), .unset, .unset, .unset, .unset, .unset] [(.int n1), (.int i0), (.ref b4), (.ref b4)])) rfl (by rw [hml]; rfl) (Steps.refl _) (a := b4) (argsL := [(.int i0), (.int n1)]) (rest := [(.ref b4)]) (lenOf pd0_0 rfl) rfl (by show 2 * 0 + _ ≤ _; exact Nat.le_of_eq rfl) (hb hby at_44) (fun _ _ => ⟨rfl, e4, (by decide : 1 + 0 ≤ _), (by decide : 2 + 0 ≤ _)⟩)
  dsimp only [Pt.U, Pt.locs, Pt.cells, Pt.slots] at X5 lq5 yq5 zq5 st5 hQ5
  subst lq5 yq5 zq5
  obtain ⟨rfl, Nq5, K5, Fi5, Fn5⟩ := hQ5
  have A4_6 := (A4.keep K5)
  have ZS5 : n0 ≤ T5.heap.size := Nat.le_trans ZS4 K5.1
  have KC5 : Keep h0 T5.heap [] := KC4.trans K5 (allS (Or.inr sz_b4) all0)
  have N5 := Fr.app N0 Nq5
  refine OGo.steps st5 ?_
  show OGo p e below _ (T5.setTop (mkF m 47 #[.val (.int i0), .val (.int j0), .val (.int fl), .val (.int n1), .val (.int n2), .val (.int kk), .unset, .unset, .unset, .unset, .unset] [(.ref b4)]))
  refine OGo.step (fun uK kK => XS.astore X5.here hx rfl (hb hby at_47) rfl rfl (l' := #[.val (.int i0), .val (.int j0), .val (.int fl), .val (.int n1), .val (.int n2), .val (.int kk), .val (.ref b4), .unset, .unset, .unset, .unset]) rfl kK) ?_
  show OGo p e below _ (T5.setTop (mkF m 49 #[.val (.int i0), .val (.int j0), .val (.int fl), .val (.int n1), .val (.int n2), .val (.int kk), .val (.ref b4), .unset, .unset, .unset, .unset] []))
  obtain ⟨T9, h9, X9, e9, E9, A9, D9, -, st9⟩ := newO X5 hx hZ hown (hw _ (List.mem_of_getElem? (i := 0) rfl)) (hw _ (List.mem_of_getElem? (i := 1) rfl)) (hw _ (List.mem_of_getElem? (i := 2) rfl)) rfl (g := (mkF m 49 #[.val (.int i0), .val (.int j0), .val (.int fl), .val (.int n1), .val (.int n2), .val (.int kk), .val (.ref b4), .unset, .unset, .unset, .unset] [])) rfl (hb hby at_49) (by decide) (by decide)
  obtain ⟨b9, g9⟩ : ∃ z, z = T5.heap.size := ⟨_, rfl⟩
  rw [← g9] at A9 D9 st9
  have ne_b4_b9 : b4 ≠ b9 := Nat.ne_of_lt (Nat.lt_of_lt_of_le A4_6.lt (Nat.le_of_eq g9.symm))
  have gn_b9 : n0 ≤ b9 := Nat.le_trans ZS5 (Nat.le_of_eq g9.symm)
  have sz_b9 : h0.size ≤ b9 := Nat.le_trans KC5.1 (Nat.le_of_eq g9.symm)
  have A4_10 := (A4_6.ext E9)
  have Fi5_11 := (Fi5.ext E9)
  have Fn5_12 := (Fn5.ext E9)
  have ZS9 : n0 ≤ h9.size := Nat.le_trans ZS5 E9.1
  have KC9 : Keep h0 h9 [] := KC5.ext E9
  have Findex_b9 : Fld Z h9 b9 "com/example/graph_of_conflicts/graphofconflicts/sql/Expression$Parameter" "index" "I" (.int (0 : Int32)) := D9 (Or.inr (hw _ (List.mem_of_getElem? (i := 15) rfl))) (ty := .int) (by decide)
  have Fnegated_b9 : Fld Z h9 b9 "com/example/graph_of_conflicts/graphofconflicts/sql/Expression$Parameter" "negated" "Z" (.int (0 : Int32)) := D9 (Or.inr (hw _ (List.mem_of_getElem? (i := 17) rfl))) (ty := .boolean) (by decide)
  refine OGo.step (fun uK kK => st9 uK kK) ?_
  show OGo p e below _ (T9.setTop (mkF m 52 #[.val (.int i0), .val (.int j0), .val (.int fl), .val (.int n1), .val (.int n2), .val (.int kk), .val (.ref b4), .unset, .unset, .unset, .unset] [(.ref b9)]))
  refine OGo.step (fun uK kK => XS.dup X9.here hx rfl (hb hby at_52) rfl rfl kK) ?_
  show OGo p e below _ (T9.setTop (mkF m 53 #[.val (.int i0), .val (.int j0), .val (.int fl), .val (.int n1), .val (.int n2), .val (.int kk), .val (.ref b4), .unset, .unset, .unset, .unset] [(.ref b9), (.ref b9)]))
  refine OGo.step (fun uK kK => XS.iload X9.here hx rfl (hb hby at_53) rfl kK) ?_
  show OGo p e below _ (T9.setTop (mkF m 55 #[.val (.int i0), .val (.int j0), .val (.int fl), .val (.int n1), .val (.int n2), .val (.int kk), .val (.ref b4), .unset, .unset, .unset, .unset] [(.int kk), (.ref b9), (.ref b9)]))
  refine OGo.step (fun uK kK => XS.iload X9.here hx rfl (hb hby at_55) rfl kK) ?_
  show OGo p e below _ (T9.setTop (mkF m 57 #[.val (.int i0), .val (.int j0), .val (.int fl), .val (.int n1), .val (.int n2), .val (.int kk), .val (.ref b4), .unset, .unset, .unset, .unset] [(.int n2), (.int kk), (.ref b9), (.ref b9)]))
  obtain ⟨_, _, ⟨T13, Lq13, kq_13, nq_13⟩, -, X13, ⟨Lc13, hQ13, lq13, yq13, zq13⟩, st13⟩ := X9.specialBack hx (y := (⟨"com/example/graph_of_conflicts/graphofconflicts/sql/Expression$Parameter", "<init>", "(IZ)V"⟩ : MethodName)) rfl hown (mvT hZ (hw _ (List.mem_of_getElem? (i := 3) rfl))) (mvT hZ (hw _ (List.mem_of_getElem? (i := 4) rfl))) (mvT hZ (hw _ (List.mem_of_getElem? (i := 5) rfl))) (by decide) (backOf (W := 1) (rmp l Z a0 hw [] b9 kk n2  h9 n0 ZS9 Findex_b9 Fnegated_b9 A9 gn_b9) hZ (hw _ (List.mem_of_getElem? (i := 5) rfl)) (hw _ (List.mem_of_getElem? (i := 2) rfl)) (by decide) (by decide)) (g := (mkF m 57 #[.val (.int i0), .val (.int j0), .val (.int fl), .val (.int n1), .val (.int n2), .val (.int kk), .val (.ref b4), .unset, .unset, .unset, .unset] [(.int n2), (.int kk), (.ref b9), (.ref b9)])) rfl (by rw [hml]; rfl) (Steps.refl _) (a := b9) (argsL := [(.int kk), (.int n2)]) (rest := [(.ref b9)]) (lenOf pd0_0 rfl) rfl (by show 2 * 0 + _ ≤ _; exact Nat.le_of_eq rfl) (hb hby at_57) (fun _ _ => ⟨rfl, e9, (by decide : 2 + 0 ≤ _), (by decide : 4 + 0 ≤ _)⟩)
  dsimp only [Pt.U, Pt.locs, Pt.cells, Pt.slots] at X13 lq13 yq13 zq13 st13 hQ13
  subst lq13 yq13 zq13
  obtain ⟨rfl, Nq13, K13, Fi13, Fn13⟩ := hQ13
  have A4_14 := (A4_10.keep K13)
  have Fi5_15 := (Fi5_11.keep K13 (ninS ne_b4_b9 nin0))
  have Fn5_16 := (Fn5_12.keep K13 (ninS ne_b4_b9 nin0))
  have A9_17 := (A9.keep K13)
  have ZS13 : n0 ≤ T13.heap.size := Nat.le_trans ZS9 K13.1
  have KC13 : Keep h0 T13.heap [] := KC9.trans K13 (allS (Or.inr sz_b9) all0)
  have N13 := Fr.app N5 Nq13
  refine OGo.steps st13 ?_
  show OGo p e below _ (T13.setTop (mkF m 60 #[.val (.int i0), .val (.int j0), .val (.int fl), .val (.int n1), .val (.int n2), .val (.int kk), .val (.ref b4), .unset, .unset, .unset, .unset] [(.ref b9)]))
  refine OGo.step (fun uK kK => XS.astore X13.here hx rfl (hb hby at_60) rfl rfl (l' := #[.val (.int i0), .val (.int j0), .val (.int fl), .val (.int n1), .val (.int n2), .val (.int kk), .val (.ref b4), .val (.ref b9), .unset, .unset, .unset]) rfl kK) ?_
  show OGo p e below _ (T13.setTop (mkF m 62 #[.val (.int i0), .val (.int j0), .val (.int fl), .val (.int n1), .val (.int n2), .val (.int kk), .val (.ref b4), .val (.ref b9), .unset, .unset, .unset] []))
  obtain ⟨T20, h20, X20, e20, E20, A20, D20, -, st20⟩ := newO X13 hx hZ hown (hw _ (List.mem_of_getElem? (i := 18) rfl)) (hw _ (List.mem_of_getElem? (i := 19) rfl)) (hw _ (List.mem_of_getElem? (i := 20) rfl)) rfl (g := (mkF m 62 #[.val (.int i0), .val (.int j0), .val (.int fl), .val (.int n1), .val (.int n2), .val (.int kk), .val (.ref b4), .val (.ref b9), .unset, .unset, .unset] [])) rfl (hb hby at_62) (by decide) (by decide)
  obtain ⟨b20, g20⟩ : ∃ z, z = T13.heap.size := ⟨_, rfl⟩
  rw [← g20] at A20 D20 st20
  have ne_b4_b20 : b4 ≠ b20 := Nat.ne_of_lt (Nat.lt_of_lt_of_le A4_14.lt (Nat.le_of_eq g20.symm))
  have ne_b9_b20 : b9 ≠ b20 := Nat.ne_of_lt (Nat.lt_of_lt_of_le A9_17.lt (Nat.le_of_eq g20.symm))
  have gn_b20 : n0 ≤ b20 := Nat.le_trans ZS13 (Nat.le_of_eq g20.symm)
  have sz_b20 : h0.size ≤ b20 := Nat.le_trans KC13.1 (Nat.le_of_eq g20.symm)
  have A4_21 := (A4_14.ext E20)
  have Fi5_22 := (Fi5_15.ext E20)
  have Fn5_23 := (Fn5_16.ext E20)
  have A9_24 := (A9_17.ext E20)
  have Fi13_25 := (Fi13.ext E20)
  have Fn13_26 := (Fn13.ext E20)
  have ZS20 : n0 ≤ h20.size := Nat.le_trans ZS13 E20.1
  have KC20 : Keep h0 h20 [] := KC13.ext E20
  have Fvalue_b20 : Fld Z h20 b20 "com/example/graph_of_conflicts/graphofconflicts/sql/Expression$Literal" "value" "Lcom/example/graph_of_conflicts/graphofconflicts/api/Value;" .null := D20 (Or.inr (hw _ (List.mem_of_getElem? (i := 26) rfl))) (ty := (.object "com/example/graph_of_conflicts/graphofconflicts/api/Value")) (by decide)
  refine OGo.step (fun uK kK => st20 uK kK) ?_
  show OGo p e below _ (T20.setTop (mkF m 65 #[.val (.int i0), .val (.int j0), .val (.int fl), .val (.int n1), .val (.int n2), .val (.int kk), .val (.ref b4), .val (.ref b9), .unset, .unset, .unset] [(.ref b20)]))
  refine OGo.step (fun uK kK => XS.dup X20.here hx rfl (hb hby at_65) rfl rfl kK) ?_
  show OGo p e below _ (T20.setTop (mkF m 66 #[.val (.int i0), .val (.int j0), .val (.int fl), .val (.int n1), .val (.int n2), .val (.int kk), .val (.ref b4), .val (.ref b9), .unset, .unset, .unset] [(.ref b20), (.ref b20)]))
  refine OGo.step (fun uK kK => XS.aconstNull X20.here hx rfl (hb hby at_66) kK) ?_
  show OGo p e below _ (T20.setTop (mkF m 67 #[.val (.int i0), .val (.int j0), .val (.int fl), .val (.int n1), .val (.int n2), .val (.int kk), .val (.ref b4), .val (.ref b9), .unset, .unset, .unset] [.null, (.ref b20), (.ref b20)]))
  obtain ⟨_, _, ⟨T27, Lq27, kq_27, nq_27⟩, -, X27, ⟨Lc27, hQ27, lq27, yq27, zq27⟩, st27⟩ := X20.specialBack hx (y := (⟨"com/example/graph_of_conflicts/graphofconflicts/sql/Expression$Literal", "<init>", "(Lcom/example/graph_of_conflicts/graphofconflicts/api/Value;)V"⟩ : MethodName)) rfl hown (mvT hZ (hw _ (List.mem_of_getElem? (i := 21) rfl))) (mvT hZ (hw _ (List.mem_of_getElem? (i := 22) rfl))) (mvT hZ (hw _ (List.mem_of_getElem? (i := 23) rfl))) (by decide) (backOf (W := 1) (rml l Z a0 hw [] b20  h20 n0 ZS20 Fvalue_b20 A20 gn_b20) hZ (hw _ (List.mem_of_getElem? (i := 23) rfl)) (hw _ (List.mem_of_getElem? (i := 20) rfl)) (by decide) (by decide)) (g := (mkF m 67 #[.val (.int i0), .val (.int j0), .val (.int fl), .val (.int n1), .val (.int n2), .val (.int kk), .val (.ref b4), .val (.ref b9), .unset, .unset, .unset] [.null, (.ref b20), (.ref b20)])) rfl (by rw [hml]; rfl) (Steps.refl _) (a := b20) (argsL := [.null]) (rest := [(.ref b20)]) (lenOf pd0_1 rfl) rfl (by show 2 * 0 + _ ≤ _; exact Nat.le_of_eq rfl) (hb hby at_67) (fun _ _ => ⟨rfl, e20, (by decide : 3 + 0 ≤ _), (by decide : 5 + 0 ≤ _)⟩)
  dsimp only [Pt.U, Pt.locs, Pt.cells, Pt.slots] at X27 lq27 yq27 zq27 st27 hQ27
  subst lq27 yq27 zq27
  obtain ⟨rfl, Nq27, K27⟩ := hQ27
  have A4_28 := (A4_21.keep K27)
  have Fi5_29 := (Fi5_22.keep K27 (ninS ne_b4_b20 nin0))
  have Fn5_30 := (Fn5_23.keep K27 (ninS ne_b4_b20 nin0))
  have A9_31 := (A9_24.keep K27)
  have Fi13_32 := (Fi13_25.keep K27 (ninS ne_b9_b20 nin0))
  have Fn13_33 := (Fn13_26.keep K27 (ninS ne_b9_b20 nin0))
  have A20_34 := (A20.keep K27)
  have ZS27 : n0 ≤ T27.heap.size := Nat.le_trans ZS20 K27.1
  have KC27 : Keep h0 T27.heap [] := KC20.trans K27 (allS (Or.inr sz_b20) all0)
  have N27 := Fr.app N13 Nq27
  refine OGo.steps st27 ?_
  show OGo p e below _ (T27.setTop (mkF m 70 #[.val (.int i0), .val (.int j0), .val (.int fl), .val (.int n1), .val (.int n2), .val (.int kk), .val (.ref b4), .val (.ref b9), .unset, .unset, .unset] [(.ref b20)]))
  refine OGo.step (fun uK kK => XS.astore X27.here hx rfl (hb hby at_70) rfl rfl (l' := #[.val (.int i0), .val (.int j0), .val (.int fl), .val (.int n1), .val (.int n2), .val (.int kk), .val (.ref b4), .val (.ref b9), .val (.ref b20), .unset, .unset]) rfl kK) ?_
  show OGo p e below _ (T27.setTop (mkF m 72 #[.val (.int i0), .val (.int j0), .val (.int fl), .val (.int n1), .val (.int n2), .val (.int kk), .val (.ref b4), .val (.ref b9), .val (.ref b20), .unset, .unset] []))
  refine OGo.step (fun uK kK => XS.iloadN X27.here hx rfl (hb hby at_72) rfl kK) ?_
  show OGo p e below _ (T27.setTop (mkF m 73 #[.val (.int i0), .val (.int j0), .val (.int fl), .val (.int n1), .val (.int n2), .val (.int kk), .val (.ref b4), .val (.ref b9), .val (.ref b20), .unset, .unset] [(.int i0)]))
  refine OGo.step (fun uK kK => XS.iload X27.here hx rfl (hb hby at_73) rfl kK) ?_
  show OGo p e below _ (T27.setTop (mkF m 75 #[.val (.int i0), .val (.int j0), .val (.int fl), .val (.int n1), .val (.int n2), .val (.int kk), .val (.ref b4), .val (.ref b9), .val (.ref b20), .unset, .unset] [(.int kk), (.int i0)]))
  refine OGo.step (t' := T27.setTop (mkF m 89 #[.val (.int i0), .val (.int j0), .val (.int fl), .val (.int n1), .val (.int n2), .val (.int kk), .val (.ref b4), .val (.ref b9), .val (.ref b20), .unset, .unset] [(.int (if i0 = kk then (if n1 = n2 then (1 : Int32) else (0 : Int32)) else (0 : Int32)))])) (fun uK kK => ?_) ?_
  · show Steps p.tables e below (T27.setTop (mkF m 75 #[.val (.int i0), .val (.int j0), .val (.int fl), .val (.int n1), .val (.int n2), .val (.int kk), .val (.ref b4), .val (.ref b9), .val (.ref b20), .unset, .unset] [(.int kk), (.int i0)])) _
    by_cases hm75_36 : i0 = kk
    · try rw [if_pos hm75_36] at kK
      refine XS.icmpNo X27.here hx rfl (hb hby at_75) rfl (teq hm75_36).2 ?_
      refine XS.iloadN X27.here hx rfl (hb hby at_78) rfl ?_
      show Steps p.tables e below (T27.setTop (mkF m 79 #[.val (.int i0), .val (.int j0), .val (.int fl), .val (.int n1), .val (.int n2), .val (.int kk), .val (.ref b4), .val (.ref b9), .val (.ref b20), .unset, .unset] [(.int n1)])) _
      refine XS.iload X27.here hx rfl (hb hby at_79) rfl ?_
      show Steps p.tables e below (T27.setTop (mkF m 81 #[.val (.int i0), .val (.int j0), .val (.int fl), .val (.int n1), .val (.int n2), .val (.int kk), .val (.ref b4), .val (.ref b9), .val (.ref b20), .unset, .unset] [(.int n2), (.int n1)])) _
      by_cases hm81_37 : n1 = n2
      · try rw [if_pos hm81_37] at kK
        refine XS.icmpNo X27.here hx rfl (hb hby at_81) rfl (teq hm81_37).2 ?_
        refine XS.iconst X27.here hx rfl (hb hby at_84) ?_
        show Steps p.tables e below (T27.setTop (mkF m 85 #[.val (.int i0), .val (.int j0), .val (.int fl), .val (.int n1), .val (.int n2), .val (.int kk), .val (.ref b4), .val (.ref b9), .val (.ref b20), .unset, .unset] [(.int (1 : Int32))])) _
        refine XS.goto X27.here hx rfl (pc0 := 85) (pc' := 89) rfl (hb hby at_85) (by decide) (by decide) ?_
        show Steps p.tables e below (T27.setTop (mkF m 89 #[.val (.int i0), .val (.int j0), .val (.int fl), .val (.int n1), .val (.int n2), .val (.int kk), .val (.ref b4), .val (.ref b9), .val (.ref b20), .unset, .unset] [(.int (1 : Int32))])) _
        exact kK
      · try rw [if_neg hm81_37] at kK
        refine XS.icmpYes X27.here hx rfl (pc0 := 81) (pc' := 88) rfl (hb hby at_81) rfl (feq hm81_37).2 (by decide) (by decide) ?_
        refine XS.iconst X27.here hx rfl (hb hby at_88) ?_
        show Steps p.tables e below (T27.setTop (mkF m 89 #[.val (.int i0), .val (.int j0), .val (.int fl), .val (.int n1), .val (.int n2), .val (.int kk), .val (.ref b4), .val (.ref b9), .val (.ref b20), .unset, .unset] [(.int (0 : Int32))])) _
        exact kK
    · try rw [if_neg hm75_36] at kK
      refine XS.icmpYes X27.here hx rfl (pc0 := 75) (pc' := 88) rfl (hb hby at_75) rfl (feq hm75_36).2 (by decide) (by decide) ?_
      refine XS.iconst X27.here hx rfl (hb hby at_88) ?_
      show Steps p.tables e below (T27.setTop (mkF m 89 #[.val (.int i0), .val (.int j0), .val (.int fl), .val (.int n1), .val (.int n2), .val (.int kk), .val (.ref b4), .val (.ref b9), .val (.ref b20), .unset, .unset] [(.int (0 : Int32))])) _
      exact kK
  show OGo p e below _ (T27.setTop (mkF m 89 #[.val (.int i0), .val (.int j0), .val (.int fl), .val (.int n1), .val (.int n2), .val (.int kk), .val (.ref b4), .val (.ref b9), .val (.ref b20), .unset, .unset] [(.int (if i0 = kk then (if n1 = n2 then (1 : Int32) else (0 : Int32)) else (0 : Int32)))]))
  obtain ⟨ex, ev_ex⟩ : ∃ z : Int32, z = (if i0 = kk then (if n1 = n2 then (1 : Int32) else (0 : Int32)) else (0 : Int32)) := ⟨_, rfl⟩
  rw [← ev_ex]
  show OGo p e below _ (T27.setTop (mkF m 89 #[.val (.int i0), .val (.int j0), .val (.int fl), .val (.int n1), .val (.int n2), .val (.int kk), .val (.ref b4), .val (.ref b9), .val (.ref b20), .unset, .unset] [(.int ex)]))
  refine OGo.step (fun uK kK => XS.istore X27.here hx rfl (hb hby at_89) rfl (l' := #[.val (.int i0), .val (.int j0), .val (.int fl), .val (.int n1), .val (.int n2), .val (.int kk), .val (.ref b4), .val (.ref b9), .val (.ref b20), .val (.int ex), .unset]) rfl kK) ?_
  show OGo p e below _ (T27.setTop (mkF m 91 #[.val (.int i0), .val (.int j0), .val (.int fl), .val (.int n1), .val (.int n2), .val (.int kk), .val (.ref b4), .val (.ref b9), .val (.ref b20), .val (.int ex), .unset] []))
  have hn1 : nar .boolean n1 = n1 := by rw [ev_n1, own_nar01]
  have hn2 : nar .boolean n2 = n2 := by rw [ev_n2, own_nar01]
  refine OGo.step (fun uK kK => XS.aload X27.here hx rfl (hb hby at_91) rfl rfl kK) ?_
  show OGo p e below _ (T27.setTop (mkF m 93 #[.val (.int i0), .val (.int j0), .val (.int fl), .val (.int n1), .val (.int n2), .val (.int kk), .val (.ref b4), .val (.ref b9), .val (.ref b20), .val (.int ex), .unset] [(.ref b4)]))
  refine OGo.step (fun uK kK => XS.aload X27.here hx rfl (hb hby at_93) rfl rfl kK) ?_
  show OGo p e below _ (T27.setTop (mkF m 95 #[.val (.int i0), .val (.int j0), .val (.int fl), .val (.int n1), .val (.int n2), .val (.int kk), .val (.ref b4), .val (.ref b9), .val (.ref b20), .val (.int ex), .unset] [(.ref b9), (.ref b4)]))
  obtain ⟨cq38, kq38, q38a, q38b, q38c⟩ := isOf hZ rfl A4_28
  obtain ⟨_, _, ⟨T38, Lq38, kq_38, nq_38⟩, -, X38, ⟨Lc38, hQ38, lq38, yq38, zq38⟩, st38⟩ := X27.virtualBack hx (y := (⟨"com/example/graph_of_conflicts/graphofconflicts/sql/Expression$Parameter", "equals", "(Ljava/lang/Object;)Z"⟩ : MethodName)) (z := (⟨"com/example/graph_of_conflicts/graphofconflicts/sql/Expression$Parameter", "equals", "(Ljava/lang/Object;)Z"⟩ : MethodName)) hown (mvT hZ (hw _ (List.mem_of_getElem? (i := 27) rfl))) (mvT hZ (hw _ (List.mem_of_getElem? (i := 28) rfl))) (notFace_of_selects (args := #[]) (mvT hZ (hw _ (List.mem_of_getElem? (i := 30) rfl)))) (mvT hZ (hw _ (List.mem_of_getElem? (i := 30) rfl))) (mvT hZ (hw _ (List.mem_of_getElem? (i := 29) rfl))) (by decide) (backOf (W := 0) (rmq l Z a0 hw [] b4 b9 i0 (nar .boolean n1) kk (nar .boolean n2) T27.heap n0 ZS27 Fi5_29 Fn5_30 Fi13_32 Fn13_33 A9_31) hZ (hw _ (List.mem_of_getElem? (i := 31) rfl)) (hw _ (List.mem_of_getElem? (i := 2) rfl)) (by decide) (by decide)) q38a q38c (g := (mkF m 95 #[.val (.int i0), .val (.int j0), .val (.int fl), .val (.int n1), .val (.int n2), .val (.int kk), .val (.ref b4), .val (.ref b9), .val (.ref b20), .val (.int ex), .unset] [(.ref b9), (.ref b4)])) rfl (by rw [hml]; rfl) (Steps.refl _) (argsL := [(.ref b9)]) (rest := []) (lenOf pd0_2 rfl) rfl (by show 2 * 0 + _ ≤ _; exact Nat.le_of_eq rfl) (hb hby at_95) (fun _ _ => ⟨rfl, rfl, (by decide : 3 + 0 ≤ _), (by decide : 5 + 0 ≤ _)⟩)
  dsimp only [Pt.U, Pt.locs, Pt.cells, Pt.slots] at X38 lq38 yq38 zq38 st38 hQ38
  subst lq38 yq38 zq38
  obtain ⟨rfl, Nq38, e38⟩ := hQ38
  have N38 := Fr.app N27 Nq38
  refine OGo.steps st38 ?_
  show OGo p e below _ (T38.setTop (mkF m 98 #[.val (.int i0), .val (.int j0), .val (.int fl), .val (.int n1), .val (.int n2), .val (.int kk), .val (.ref b4), .val (.ref b9), .val (.ref b20), .val (.int ex), .unset] [(.int (nar .boolean (if i0 = kk then (if (nar .boolean n1) = (nar .boolean n2) then (1 : Int32) else (0 : Int32)) else (0 : Int32))))]))
  refine OGo.step (fun uK kK => XS.iload X38.here hx rfl (hb hby at_98) rfl kK) ?_
  show OGo p e below _ (T38.setTop (mkF m 100 #[.val (.int i0), .val (.int j0), .val (.int fl), .val (.int n1), .val (.int n2), .val (.int kk), .val (.ref b4), .val (.ref b9), .val (.ref b20), .val (.int ex), .unset] [(.int ex), (.int (nar .boolean (if i0 = kk then (if (nar .boolean n1) = (nar .boolean n2) then (1 : Int32) else (0 : Int32)) else (0 : Int32))))]))
  have hc100 : (nar .boolean (if i0 = kk then (if (nar .boolean n1) = (nar .boolean n2) then (1 : Int32) else (0 : Int32)) else (0 : Int32))) = ex := by rw [own_nar2, hn1, hn2, ev_ex]
  refine OGo.step (fun uK kK => XS.icmpNo X38.here hx rfl (hb hby at_100) rfl (teq hc100).2 kK) ?_
  show OGo p e below _ (T38.setTop (mkF m 103 #[.val (.int i0), .val (.int j0), .val (.int fl), .val (.int n1), .val (.int n2), .val (.int kk), .val (.ref b4), .val (.ref b9), .val (.ref b20), .val (.int ex), .unset] []))
  refine OGo.step (fun uK kK => XS.iconst X38.here hx rfl (hb hby at_103) kK) ?_
  show OGo p e below _ (T38.setTop (mkF m 104 #[.val (.int i0), .val (.int j0), .val (.int fl), .val (.int n1), .val (.int n2), .val (.int kk), .val (.ref b4), .val (.ref b9), .val (.ref b20), .val (.int ex), .unset] [(.int (1 : Int32))]))
  refine OGo.step (fun uK kK => XS.goto X38.here hx rfl (pc0 := 104) (pc' := 108) rfl (hb hby at_104) (by decide) (by decide) kK) ?_
  show OGo p e below _ (T38.setTop (mkF m 108 #[.val (.int i0), .val (.int j0), .val (.int fl), .val (.int n1), .val (.int n2), .val (.int kk), .val (.ref b4), .val (.ref b9), .val (.ref b20), .val (.int ex), .unset] [(.int (1 : Int32))]))
  refine OGo.step (fun uK kK => XS.istore X38.here hx rfl (hb hby at_108) rfl (l' := #[.val (.int i0), .val (.int j0), .val (.int fl), .val (.int n1), .val (.int n2), .val (.int kk), .val (.ref b4), .val (.ref b9), .val (.ref b20), .val (.int ex), .val (.int (1 : Int32))]) rfl kK) ?_
  show OGo p e below _ (T38.setTop (mkF m 110 #[.val (.int i0), .val (.int j0), .val (.int fl), .val (.int n1), .val (.int n2), .val (.int kk), .val (.ref b4), .val (.ref b9), .val (.ref b20), .val (.int ex), .val (.int (1 : Int32))] []))
  refine OGo.step (fun uK kK => XS.iload X38.here hx rfl (hb hby at_110) rfl kK) ?_
  show OGo p e below _ (T38.setTop (mkF m 112 #[.val (.int i0), .val (.int j0), .val (.int fl), .val (.int n1), .val (.int n2), .val (.int kk), .val (.ref b4), .val (.ref b9), .val (.ref b20), .val (.int ex), .val (.int (1 : Int32))] [(.int (1 : Int32))]))
  have hc112 : ¬ ((1 : Int32) = (0 : Int32)) := by decide
  refine OGo.step (fun uK kK => XS.ifNo X38.here hx rfl (hb hby at_112) rfl ((if0 _ _).trans (feq hc112).1) kK) ?_
  show OGo p e below _ (T38.setTop (mkF m 115 #[.val (.int i0), .val (.int j0), .val (.int fl), .val (.int n1), .val (.int n2), .val (.int kk), .val (.ref b4), .val (.ref b9), .val (.ref b20), .val (.int ex), .val (.int (1 : Int32))] []))
  refine OGo.step (fun uK kK => XS.aload X38.here hx rfl (hb hby at_115) rfl rfl kK) ?_
  show OGo p e below _ (T38.setTop (mkF m 117 #[.val (.int i0), .val (.int j0), .val (.int fl), .val (.int n1), .val (.int n2), .val (.int kk), .val (.ref b4), .val (.ref b9), .val (.ref b20), .val (.int ex), .val (.int (1 : Int32))] [(.ref b9)]))
  refine OGo.step (fun uK kK => XS.aload X38.here hx rfl (hb hby at_117) rfl rfl kK) ?_
  show OGo p e below _ (T38.setTop (mkF m 119 #[.val (.int i0), .val (.int j0), .val (.int fl), .val (.int n1), .val (.int n2), .val (.int kk), .val (.ref b4), .val (.ref b9), .val (.ref b20), .val (.int ex), .val (.int (1 : Int32))] [(.ref b4), (.ref b9)]))
  obtain ⟨cq39, kq39, q39a, q39b, q39c⟩ := isOf hZ e38 A9_31
  obtain ⟨_, _, ⟨T39, Lq39, kq_39, nq_39⟩, -, X39, ⟨Lc39, hQ39, lq39, yq39, zq39⟩, st39⟩ := X38.virtualBack hx (y := (⟨"com/example/graph_of_conflicts/graphofconflicts/sql/Expression$Parameter", "equals", "(Ljava/lang/Object;)Z"⟩ : MethodName)) (z := (⟨"com/example/graph_of_conflicts/graphofconflicts/sql/Expression$Parameter", "equals", "(Ljava/lang/Object;)Z"⟩ : MethodName)) hown (mvT hZ (hw _ (List.mem_of_getElem? (i := 27) rfl))) (mvT hZ (hw _ (List.mem_of_getElem? (i := 28) rfl))) (notFace_of_selects (args := #[]) (mvT hZ (hw _ (List.mem_of_getElem? (i := 30) rfl)))) (mvT hZ (hw _ (List.mem_of_getElem? (i := 30) rfl))) (mvT hZ (hw _ (List.mem_of_getElem? (i := 29) rfl))) (by decide) (backOf (W := 0) (rmq l Z a0 hw [] b9 b4 kk (nar .boolean n2) i0 (nar .boolean n1) T27.heap n0 ZS27 Fi13_32 Fn13_33 Fi5_29 Fn5_30 A4_28) hZ (hw _ (List.mem_of_getElem? (i := 31) rfl)) (hw _ (List.mem_of_getElem? (i := 2) rfl)) (by decide) (by decide)) q39a q39c (g := (mkF m 119 #[.val (.int i0), .val (.int j0), .val (.int fl), .val (.int n1), .val (.int n2), .val (.int kk), .val (.ref b4), .val (.ref b9), .val (.ref b20), .val (.int ex), .val (.int (1 : Int32))] [(.ref b4), (.ref b9)])) rfl (by rw [hml]; rfl) (Steps.refl _) (argsL := [(.ref b4)]) (rest := []) (lenOf pd0_2 rfl) rfl (by show 2 * 0 + _ ≤ _; exact Nat.le_of_eq rfl) (hb hby at_119) (fun _ _ => ⟨rfl, e38, (by decide : 3 + 0 ≤ _), (by decide : 5 + 0 ≤ _)⟩)
  dsimp only [Pt.U, Pt.locs, Pt.cells, Pt.slots] at X39 lq39 yq39 zq39 st39 hQ39
  subst lq39 yq39 zq39
  obtain ⟨rfl, Nq39, e39⟩ := hQ39
  have N39 := Fr.app N38 Nq39
  refine OGo.steps st39 ?_
  show OGo p e below _ (T39.setTop (mkF m 122 #[.val (.int i0), .val (.int j0), .val (.int fl), .val (.int n1), .val (.int n2), .val (.int kk), .val (.ref b4), .val (.ref b9), .val (.ref b20), .val (.int ex), .val (.int (1 : Int32))] [(.int (nar .boolean (if kk = i0 then (if (nar .boolean n2) = (nar .boolean n1) then (1 : Int32) else (0 : Int32)) else (0 : Int32))))]))
  refine OGo.step (fun uK kK => XS.iload X39.here hx rfl (hb hby at_122) rfl kK) ?_
  show OGo p e below _ (T39.setTop (mkF m 124 #[.val (.int i0), .val (.int j0), .val (.int fl), .val (.int n1), .val (.int n2), .val (.int kk), .val (.ref b4), .val (.ref b9), .val (.ref b20), .val (.int ex), .val (.int (1 : Int32))] [(.int ex), (.int (nar .boolean (if kk = i0 then (if (nar .boolean n2) = (nar .boolean n1) then (1 : Int32) else (0 : Int32)) else (0 : Int32))))]))
  have hc124 : (nar .boolean (if kk = i0 then (if (nar .boolean n2) = (nar .boolean n1) then (1 : Int32) else (0 : Int32)) else (0 : Int32))) = ex := by rw [own_nar2, hn1, hn2, ev_ex]; simp only [eq_comm]
  refine OGo.step (fun uK kK => XS.icmpNo X39.here hx rfl (hb hby at_124) rfl (teq hc124).2 kK) ?_
  show OGo p e below _ (T39.setTop (mkF m 127 #[.val (.int i0), .val (.int j0), .val (.int fl), .val (.int n1), .val (.int n2), .val (.int kk), .val (.ref b4), .val (.ref b9), .val (.ref b20), .val (.int ex), .val (.int (1 : Int32))] []))
  refine OGo.step (fun uK kK => XS.iconst X39.here hx rfl (hb hby at_127) kK) ?_
  show OGo p e below _ (T39.setTop (mkF m 128 #[.val (.int i0), .val (.int j0), .val (.int fl), .val (.int n1), .val (.int n2), .val (.int kk), .val (.ref b4), .val (.ref b9), .val (.ref b20), .val (.int ex), .val (.int (1 : Int32))] [(.int (1 : Int32))]))
  refine OGo.step (fun uK kK => XS.goto X39.here hx rfl (pc0 := 128) (pc' := 132) rfl (hb hby at_128) (by decide) (by decide) kK) ?_
  show OGo p e below _ (T39.setTop (mkF m 132 #[.val (.int i0), .val (.int j0), .val (.int fl), .val (.int n1), .val (.int n2), .val (.int kk), .val (.ref b4), .val (.ref b9), .val (.ref b20), .val (.int ex), .val (.int (1 : Int32))] [(.int (1 : Int32))]))
  refine OGo.step (fun uK kK => XS.istore X39.here hx rfl (hb hby at_132) rfl (l' := #[.val (.int i0), .val (.int j0), .val (.int fl), .val (.int n1), .val (.int n2), .val (.int kk), .val (.ref b4), .val (.ref b9), .val (.ref b20), .val (.int ex), .val (.int (1 : Int32))]) rfl kK) ?_
  show OGo p e below _ (T39.setTop (mkF m 134 #[.val (.int i0), .val (.int j0), .val (.int fl), .val (.int n1), .val (.int n2), .val (.int kk), .val (.ref b4), .val (.ref b9), .val (.ref b20), .val (.int ex), .val (.int (1 : Int32))] []))
  refine OGo.step (fun uK kK => XS.iload X39.here hx rfl (hb hby at_134) rfl kK) ?_
  show OGo p e below _ (T39.setTop (mkF m 136 #[.val (.int i0), .val (.int j0), .val (.int fl), .val (.int n1), .val (.int n2), .val (.int kk), .val (.ref b4), .val (.ref b9), .val (.ref b20), .val (.int ex), .val (.int (1 : Int32))] [(.int (1 : Int32))]))
  have hc136 : ¬ ((1 : Int32) = (0 : Int32)) := by decide
  refine OGo.step (fun uK kK => XS.ifNo X39.here hx rfl (hb hby at_136) rfl ((if0 _ _).trans (feq hc136).1) kK) ?_
  show OGo p e below _ (T39.setTop (mkF m 139 #[.val (.int i0), .val (.int j0), .val (.int fl), .val (.int n1), .val (.int n2), .val (.int kk), .val (.ref b4), .val (.ref b9), .val (.ref b20), .val (.int ex), .val (.int (1 : Int32))] []))
  refine OGo.step (fun uK kK => XS.aload X39.here hx rfl (hb hby at_139) rfl rfl kK) ?_
  show OGo p e below _ (T39.setTop (mkF m 141 #[.val (.int i0), .val (.int j0), .val (.int fl), .val (.int n1), .val (.int n2), .val (.int kk), .val (.ref b4), .val (.ref b9), .val (.ref b20), .val (.int ex), .val (.int (1 : Int32))] [(.ref b4)]))
  refine OGo.step (fun uK kK => XS.aload X39.here hx rfl (hb hby at_141) rfl rfl kK) ?_
  show OGo p e below _ (T39.setTop (mkF m 143 #[.val (.int i0), .val (.int j0), .val (.int fl), .val (.int n1), .val (.int n2), .val (.int kk), .val (.ref b4), .val (.ref b9), .val (.ref b20), .val (.int ex), .val (.int (1 : Int32))] [(.ref b4), (.ref b4)]))
  obtain ⟨cq40, kq40, q40a, q40b, q40c⟩ := isOf hZ e39 A4_28
  obtain ⟨_, _, ⟨T40, Lq40, kq_40, nq_40⟩, -, X40, ⟨Lc40, hQ40, lq40, yq40, zq40⟩, st40⟩ := X39.virtualBack hx (y := (⟨"com/example/graph_of_conflicts/graphofconflicts/sql/Expression$Parameter", "equals", "(Ljava/lang/Object;)Z"⟩ : MethodName)) (z := (⟨"com/example/graph_of_conflicts/graphofconflicts/sql/Expression$Parameter", "equals", "(Ljava/lang/Object;)Z"⟩ : MethodName)) hown (mvT hZ (hw _ (List.mem_of_getElem? (i := 27) rfl))) (mvT hZ (hw _ (List.mem_of_getElem? (i := 28) rfl))) (notFace_of_selects (args := #[]) (mvT hZ (hw _ (List.mem_of_getElem? (i := 30) rfl)))) (mvT hZ (hw _ (List.mem_of_getElem? (i := 30) rfl))) (mvT hZ (hw _ (List.mem_of_getElem? (i := 29) rfl))) (by decide) (backOf (W := 0) (rmq l Z a0 hw [] b4 b4 i0 (nar .boolean n1) i0 (nar .boolean n1) T27.heap n0 ZS27 Fi5_29 Fn5_30 Fi5_29 Fn5_30 A4_28) hZ (hw _ (List.mem_of_getElem? (i := 31) rfl)) (hw _ (List.mem_of_getElem? (i := 2) rfl)) (by decide) (by decide)) q40a q40c (g := (mkF m 143 #[.val (.int i0), .val (.int j0), .val (.int fl), .val (.int n1), .val (.int n2), .val (.int kk), .val (.ref b4), .val (.ref b9), .val (.ref b20), .val (.int ex), .val (.int (1 : Int32))] [(.ref b4), (.ref b4)])) rfl (by rw [hml]; rfl) (Steps.refl _) (argsL := [(.ref b4)]) (rest := []) (lenOf pd0_2 rfl) rfl (by show 2 * 0 + _ ≤ _; exact Nat.le_of_eq rfl) (hb hby at_143) (fun _ _ => ⟨rfl, e39, (by decide : 3 + 0 ≤ _), (by decide : 5 + 0 ≤ _)⟩)
  dsimp only [Pt.U, Pt.locs, Pt.cells, Pt.slots] at X40 lq40 yq40 zq40 st40 hQ40
  subst lq40 yq40 zq40
  obtain ⟨rfl, Nq40, e40⟩ := hQ40
  have N40 := Fr.app N39 Nq40
  refine OGo.steps st40 ?_
  show OGo p e below _ (T40.setTop (mkF m 146 #[.val (.int i0), .val (.int j0), .val (.int fl), .val (.int n1), .val (.int n2), .val (.int kk), .val (.ref b4), .val (.ref b9), .val (.ref b20), .val (.int ex), .val (.int (1 : Int32))] [(.int (nar .boolean (if i0 = i0 then (if (nar .boolean n1) = (nar .boolean n1) then (1 : Int32) else (0 : Int32)) else (0 : Int32))))]))
  have hc146 : ¬ ((nar .boolean (if i0 = i0 then (if (nar .boolean n1) = (nar .boolean n1) then (1 : Int32) else (0 : Int32)) else (0 : Int32))) = (0 : Int32)) := by rw [if_pos rfl, if_pos rfl]; decide
  refine OGo.step (fun uK kK => XS.ifNo X40.here hx rfl (hb hby at_146) rfl ((if0 _ _).trans (feq hc146).1) kK) ?_
  show OGo p e below _ (T40.setTop (mkF m 149 #[.val (.int i0), .val (.int j0), .val (.int fl), .val (.int n1), .val (.int n2), .val (.int kk), .val (.ref b4), .val (.ref b9), .val (.ref b20), .val (.int ex), .val (.int (1 : Int32))] []))
  refine OGo.step (fun uK kK => XS.iconst X40.here hx rfl (hb hby at_149) kK) ?_
  show OGo p e below _ (T40.setTop (mkF m 150 #[.val (.int i0), .val (.int j0), .val (.int fl), .val (.int n1), .val (.int n2), .val (.int kk), .val (.ref b4), .val (.ref b9), .val (.ref b20), .val (.int ex), .val (.int (1 : Int32))] [(.int (1 : Int32))]))
  refine OGo.step (fun uK kK => XS.goto X40.here hx rfl (pc0 := 150) (pc' := 154) rfl (hb hby at_150) (by decide) (by decide) kK) ?_
  show OGo p e below _ (T40.setTop (mkF m 154 #[.val (.int i0), .val (.int j0), .val (.int fl), .val (.int n1), .val (.int n2), .val (.int kk), .val (.ref b4), .val (.ref b9), .val (.ref b20), .val (.int ex), .val (.int (1 : Int32))] [(.int (1 : Int32))]))
  refine OGo.step (fun uK kK => XS.istore X40.here hx rfl (hb hby at_154) rfl (l' := #[.val (.int i0), .val (.int j0), .val (.int fl), .val (.int n1), .val (.int n2), .val (.int kk), .val (.ref b4), .val (.ref b9), .val (.ref b20), .val (.int ex), .val (.int (1 : Int32))]) rfl kK) ?_
  show OGo p e below _ (T40.setTop (mkF m 156 #[.val (.int i0), .val (.int j0), .val (.int fl), .val (.int n1), .val (.int n2), .val (.int kk), .val (.ref b4), .val (.ref b9), .val (.ref b20), .val (.int ex), .val (.int (1 : Int32))] []))
  refine OGo.step (fun uK kK => XS.iload X40.here hx rfl (hb hby at_156) rfl kK) ?_
  show OGo p e below _ (T40.setTop (mkF m 158 #[.val (.int i0), .val (.int j0), .val (.int fl), .val (.int n1), .val (.int n2), .val (.int kk), .val (.ref b4), .val (.ref b9), .val (.ref b20), .val (.int ex), .val (.int (1 : Int32))] [(.int (1 : Int32))]))
  have hc158 : ¬ ((1 : Int32) = (0 : Int32)) := by decide
  refine OGo.step (fun uK kK => XS.ifNo X40.here hx rfl (hb hby at_158) rfl ((if0 _ _).trans (feq hc158).1) kK) ?_
  show OGo p e below _ (T40.setTop (mkF m 161 #[.val (.int i0), .val (.int j0), .val (.int fl), .val (.int n1), .val (.int n2), .val (.int kk), .val (.ref b4), .val (.ref b9), .val (.ref b20), .val (.int ex), .val (.int (1 : Int32))] []))
  refine OGo.step (fun uK kK => XS.aload X40.here hx rfl (hb hby at_161) rfl rfl kK) ?_
  show OGo p e below _ (T40.setTop (mkF m 163 #[.val (.int i0), .val (.int j0), .val (.int fl), .val (.int n1), .val (.int n2), .val (.int kk), .val (.ref b4), .val (.ref b9), .val (.ref b20), .val (.int ex), .val (.int (1 : Int32))] [(.ref b4)]))
  refine OGo.step (fun uK kK => XS.aconstNull X40.here hx rfl (hb hby at_163) kK) ?_
  show OGo p e below _ (T40.setTop (mkF m 164 #[.val (.int i0), .val (.int j0), .val (.int fl), .val (.int n1), .val (.int n2), .val (.int kk), .val (.ref b4), .val (.ref b9), .val (.ref b20), .val (.int ex), .val (.int (1 : Int32))] [.null, (.ref b4)]))
  obtain ⟨cq41, kq41, q41a, q41b, q41c⟩ := isOf hZ e40 A4_28
  obtain ⟨_, _, ⟨T41, Lq41, kq_41, nq_41⟩, -, X41, ⟨Lc41, hQ41, lq41, yq41, zq41⟩, st41⟩ := X40.virtualBack hx (y := (⟨"com/example/graph_of_conflicts/graphofconflicts/sql/Expression$Parameter", "equals", "(Ljava/lang/Object;)Z"⟩ : MethodName)) (z := (⟨"com/example/graph_of_conflicts/graphofconflicts/sql/Expression$Parameter", "equals", "(Ljava/lang/Object;)Z"⟩ : MethodName)) hown (mvT hZ (hw _ (List.mem_of_getElem? (i := 27) rfl))) (mvT hZ (hw _ (List.mem_of_getElem? (i := 28) rfl))) (notFace_of_selects (args := #[]) (mvT hZ (hw _ (List.mem_of_getElem? (i := 30) rfl)))) (mvT hZ (hw _ (List.mem_of_getElem? (i := 30) rfl))) (mvT hZ (hw _ (List.mem_of_getElem? (i := 29) rfl))) (by decide) (backOf (W := 0) (rmn l Z a0 hw [] b4  T27.heap n0 ZS27 ) hZ (hw _ (List.mem_of_getElem? (i := 31) rfl)) (hw _ (List.mem_of_getElem? (i := 2) rfl)) (by decide) (by decide)) q41a q41c (g := (mkF m 164 #[.val (.int i0), .val (.int j0), .val (.int fl), .val (.int n1), .val (.int n2), .val (.int kk), .val (.ref b4), .val (.ref b9), .val (.ref b20), .val (.int ex), .val (.int (1 : Int32))] [.null, (.ref b4)])) rfl (by rw [hml]; rfl) (Steps.refl _) (argsL := [.null]) (rest := []) (lenOf pd0_2 rfl) rfl (by show 2 * 0 + _ ≤ _; exact Nat.le_of_eq rfl) (hb hby at_164) (fun _ _ => ⟨rfl, e40, (by decide : 3 + 0 ≤ _), (by decide : 5 + 0 ≤ _)⟩)
  dsimp only [Pt.U, Pt.locs, Pt.cells, Pt.slots] at X41 lq41 yq41 zq41 st41 hQ41
  subst lq41 yq41 zq41
  obtain ⟨rfl, Nq41, e41⟩ := hQ41
  have N41 := Fr.app N40 Nq41
  refine OGo.steps st41 ?_
  show OGo p e below _ (T41.setTop (mkF m 167 #[.val (.int i0), .val (.int j0), .val (.int fl), .val (.int n1), .val (.int n2), .val (.int kk), .val (.ref b4), .val (.ref b9), .val (.ref b20), .val (.int ex), .val (.int (1 : Int32))] [(.int (nar .boolean (0 : Int32)))]))
  have hc167 : (nar .boolean (0 : Int32)) = (0 : Int32) := by decide
  refine OGo.step (fun uK kK => XS.ifNo X41.here hx rfl (hb hby at_167) rfl ((if0 _ _).trans (teq hc167).2) kK) ?_
  show OGo p e below _ (T41.setTop (mkF m 170 #[.val (.int i0), .val (.int j0), .val (.int fl), .val (.int n1), .val (.int n2), .val (.int kk), .val (.ref b4), .val (.ref b9), .val (.ref b20), .val (.int ex), .val (.int (1 : Int32))] []))
  refine OGo.step (fun uK kK => XS.iconst X41.here hx rfl (hb hby at_170) kK) ?_
  show OGo p e below _ (T41.setTop (mkF m 171 #[.val (.int i0), .val (.int j0), .val (.int fl), .val (.int n1), .val (.int n2), .val (.int kk), .val (.ref b4), .val (.ref b9), .val (.ref b20), .val (.int ex), .val (.int (1 : Int32))] [(.int (1 : Int32))]))
  refine OGo.step (fun uK kK => XS.goto X41.here hx rfl (pc0 := 171) (pc' := 175) rfl (hb hby at_171) (by decide) (by decide) kK) ?_
  show OGo p e below _ (T41.setTop (mkF m 175 #[.val (.int i0), .val (.int j0), .val (.int fl), .val (.int n1), .val (.int n2), .val (.int kk), .val (.ref b4), .val (.ref b9), .val (.ref b20), .val (.int ex), .val (.int (1 : Int32))] [(.int (1 : Int32))]))
  refine OGo.step (fun uK kK => XS.istore X41.here hx rfl (hb hby at_175) rfl (l' := #[.val (.int i0), .val (.int j0), .val (.int fl), .val (.int n1), .val (.int n2), .val (.int kk), .val (.ref b4), .val (.ref b9), .val (.ref b20), .val (.int ex), .val (.int (1 : Int32))]) rfl kK) ?_
  show OGo p e below _ (T41.setTop (mkF m 177 #[.val (.int i0), .val (.int j0), .val (.int fl), .val (.int n1), .val (.int n2), .val (.int kk), .val (.ref b4), .val (.ref b9), .val (.ref b20), .val (.int ex), .val (.int (1 : Int32))] []))
  refine OGo.step (fun uK kK => XS.iload X41.here hx rfl (hb hby at_177) rfl kK) ?_
  show OGo p e below _ (T41.setTop (mkF m 179 #[.val (.int i0), .val (.int j0), .val (.int fl), .val (.int n1), .val (.int n2), .val (.int kk), .val (.ref b4), .val (.ref b9), .val (.ref b20), .val (.int ex), .val (.int (1 : Int32))] [(.int (1 : Int32))]))
  have hc179 : ¬ ((1 : Int32) = (0 : Int32)) := by decide
  refine OGo.step (fun uK kK => XS.ifNo X41.here hx rfl (hb hby at_179) rfl ((if0 _ _).trans (feq hc179).1) kK) ?_
  show OGo p e below _ (T41.setTop (mkF m 182 #[.val (.int i0), .val (.int j0), .val (.int fl), .val (.int n1), .val (.int n2), .val (.int kk), .val (.ref b4), .val (.ref b9), .val (.ref b20), .val (.int ex), .val (.int (1 : Int32))] []))
  refine OGo.step (fun uK kK => XS.aload X41.here hx rfl (hb hby at_182) rfl rfl kK) ?_
  show OGo p e below _ (T41.setTop (mkF m 184 #[.val (.int i0), .val (.int j0), .val (.int fl), .val (.int n1), .val (.int n2), .val (.int kk), .val (.ref b4), .val (.ref b9), .val (.ref b20), .val (.int ex), .val (.int (1 : Int32))] [(.ref b4)]))
  refine OGo.step (fun uK kK => XS.aload X41.here hx rfl (hb hby at_184) rfl rfl kK) ?_
  show OGo p e below _ (T41.setTop (mkF m 186 #[.val (.int i0), .val (.int j0), .val (.int fl), .val (.int n1), .val (.int n2), .val (.int kk), .val (.ref b4), .val (.ref b9), .val (.ref b20), .val (.int ex), .val (.int (1 : Int32))] [(.ref b20), (.ref b4)]))
  obtain ⟨cq42, kq42, q42a, q42b, q42c⟩ := isOf hZ e41 A4_28
  obtain ⟨_, _, ⟨T42, Lq42, kq_42, nq_42⟩, -, X42, ⟨Lc42, hQ42, lq42, yq42, zq42⟩, st42⟩ := X41.virtualBack hx (y := (⟨"com/example/graph_of_conflicts/graphofconflicts/sql/Expression$Parameter", "equals", "(Ljava/lang/Object;)Z"⟩ : MethodName)) (z := (⟨"com/example/graph_of_conflicts/graphofconflicts/sql/Expression$Parameter", "equals", "(Ljava/lang/Object;)Z"⟩ : MethodName)) hown (mvT hZ (hw _ (List.mem_of_getElem? (i := 27) rfl))) (mvT hZ (hw _ (List.mem_of_getElem? (i := 28) rfl))) (notFace_of_selects (args := #[]) (mvT hZ (hw _ (List.mem_of_getElem? (i := 30) rfl)))) (mvT hZ (hw _ (List.mem_of_getElem? (i := 30) rfl))) (mvT hZ (hw _ (List.mem_of_getElem? (i := 29) rfl))) (by decide) (backOf (W := 0) (rmt l Z a0 hw [] b4 b20  T27.heap n0 ZS27 A20_34) hZ (hw _ (List.mem_of_getElem? (i := 31) rfl)) (hw _ (List.mem_of_getElem? (i := 2) rfl)) (by decide) (by decide)) q42a q42c (g := (mkF m 186 #[.val (.int i0), .val (.int j0), .val (.int fl), .val (.int n1), .val (.int n2), .val (.int kk), .val (.ref b4), .val (.ref b9), .val (.ref b20), .val (.int ex), .val (.int (1 : Int32))] [(.ref b20), (.ref b4)])) rfl (by rw [hml]; rfl) (Steps.refl _) (argsL := [(.ref b20)]) (rest := []) (lenOf pd0_2 rfl) rfl (by show 2 * 0 + _ ≤ _; exact Nat.le_of_eq rfl) (hb hby at_186) (fun _ _ => ⟨rfl, e41, (by decide : 3 + 0 ≤ _), (by decide : 5 + 0 ≤ _)⟩)
  dsimp only [Pt.U, Pt.locs, Pt.cells, Pt.slots] at X42 lq42 yq42 zq42 st42 hQ42
  subst lq42 yq42 zq42
  obtain ⟨rfl, Nq42, e42⟩ := hQ42
  have N42 := Fr.app N41 Nq42
  refine OGo.steps st42 ?_
  show OGo p e below _ (T42.setTop (mkF m 189 #[.val (.int i0), .val (.int j0), .val (.int fl), .val (.int n1), .val (.int n2), .val (.int kk), .val (.ref b4), .val (.ref b9), .val (.ref b20), .val (.int ex), .val (.int (1 : Int32))] [(.int (nar .boolean (0 : Int32)))]))
  have hc189 : (nar .boolean (0 : Int32)) = (0 : Int32) := by decide
  refine OGo.step (fun uK kK => XS.ifNo X42.here hx rfl (hb hby at_189) rfl ((if0 _ _).trans (teq hc189).2) kK) ?_
  show OGo p e below _ (T42.setTop (mkF m 192 #[.val (.int i0), .val (.int j0), .val (.int fl), .val (.int n1), .val (.int n2), .val (.int kk), .val (.ref b4), .val (.ref b9), .val (.ref b20), .val (.int ex), .val (.int (1 : Int32))] []))
  refine OGo.step (fun uK kK => XS.iconst X42.here hx rfl (hb hby at_192) kK) ?_
  show OGo p e below _ (T42.setTop (mkF m 193 #[.val (.int i0), .val (.int j0), .val (.int fl), .val (.int n1), .val (.int n2), .val (.int kk), .val (.ref b4), .val (.ref b9), .val (.ref b20), .val (.int ex), .val (.int (1 : Int32))] [(.int (1 : Int32))]))
  refine OGo.step (fun uK kK => XS.goto X42.here hx rfl (pc0 := 193) (pc' := 197) rfl (hb hby at_193) (by decide) (by decide) kK) ?_
  show OGo p e below _ (T42.setTop (mkF m 197 #[.val (.int i0), .val (.int j0), .val (.int fl), .val (.int n1), .val (.int n2), .val (.int kk), .val (.ref b4), .val (.ref b9), .val (.ref b20), .val (.int ex), .val (.int (1 : Int32))] [(.int (1 : Int32))]))
  refine OGo.step (fun uK kK => XS.istore X42.here hx rfl (hb hby at_197) rfl (l' := #[.val (.int i0), .val (.int j0), .val (.int fl), .val (.int n1), .val (.int n2), .val (.int kk), .val (.ref b4), .val (.ref b9), .val (.ref b20), .val (.int ex), .val (.int (1 : Int32))]) rfl kK) ?_
  show OGo p e below _ (T42.setTop (mkF m 199 #[.val (.int i0), .val (.int j0), .val (.int fl), .val (.int n1), .val (.int n2), .val (.int kk), .val (.ref b4), .val (.ref b9), .val (.ref b20), .val (.int ex), .val (.int (1 : Int32))] []))
  refine OGo.step (fun uK kK => XS.iload X42.here hx rfl (hb hby at_199) rfl kK) ?_
  show OGo p e below _ (T42.setTop (mkF m 201 #[.val (.int i0), .val (.int j0), .val (.int fl), .val (.int n1), .val (.int n2), .val (.int kk), .val (.ref b4), .val (.ref b9), .val (.ref b20), .val (.int ex), .val (.int (1 : Int32))] [(.int (1 : Int32))]))
  exact OGo.retN X42 hx Bd.notSynchronized (t := .boolean) Bd.returns (by simp) (hb hby at_201) (by decide) (by decide) (by show Q0 Z i0 j0 fl h0 n0 _ T42.heap _; rw [e42]; exact ⟨rfl, N42⟩)
set_option maxRecDepth 65536 in
set_option maxHeartbeats 40000000 in
theorem comes_1 {Post : Tables → Env → Array Value → State → Outcome → State → Prop} (hpost : ∀ tb e args s v u, (limb_1_1.after args s (.returned v) u = true ∧ limb_1_2.after args s (.returned v) u = true ∧ True) → FrameEnd s (.returned v) u (Jvm.fieldLocs frame_1_writes args s ++ Jvm.arrayLocs frame_1_arrays args s ++ Jvm.staticLocs frame_1_statics s) 16 128 → Post tb e args s (.returned v) u) :
    ArmFor flags0 classFile x code maxLocals ret World_1 tables_1 room_1 Calls_1 rest_1 Pre_1 Post := by
  intro l hfl _ _ p e ha hc hk s m args below hf hA hF happ hP
  obtain ⟨hcalls, hrest, hpre⟩ := hP
  obtain ⟨-, -, -, hnamed, -, -, -, hat⟩ := (Spec.applies_iff hf).mp happ
  obtain ⟨hg, hn⟩ := and_e (Cond.before_iff.mp (show (Jvm.Cond.and given_1 narrow_1).before args s = true from hpre))
  obtain ⟨hcount, hg0⟩ := and_e hg
  obtain ⟨ga0, hg1⟩ := and_e hg0
  obtain ⟨ga1, hg2⟩ := and_e hg1
  have ga2 := hg2
  obtain ⟨w0, w1, w2, rfl⟩ : ∃ w0 w1 w2 : Value, args = #[w0, w1, w2] := by
    have hs : args.size = 3 := by simpa [Cond.value, given_1] using hcount
    obtain ⟨L⟩ := args
    match L, hs with
    | [w0, w1, w2], _ => exact ⟨w0, w1, w2, rfl⟩
  have hw := fun d (hd : d ∈ tables_1) => atoms_spec (ws := Jvm.Cond.code x code maxLocals ret :: tables_1) hat d (List.mem_cons_of_mem _ hd)
  have hfit : Fit s := fun {y c} hc i hi => by
    obtain ⟨ha, rfl⟩ := Array.getElem?_eq_some_iff.mp hc
    have q := List.all_eq_true.mp ((Array.all_eq_true_iff_forall_mem.mp hF) _ (Array.getElem_mem ha)) i (List.mem_range.mpr hi)
    simpa [Array.getElem?_eq_getElem hi] using q
  obtain ⟨i0, ei0⟩ := is_v ga0
  obtain rfl : w0 = (.int i0) := Option.some.inj ei0
  obtain ⟨i1, ei1⟩ := is_v ga1
  obtain rfl : w1 = (.int i1) := Option.some.inj ei1
  obtain ⟨i2, ei2⟩ := is_v ga2
  obtain rfl : w2 = (.int i2) := Option.some.inj ei2
  obtain ⟨n, o, h1, h2, h3, _, L, rfl, ⟨rfl, N⟩, hq⟩ := rm0 l s _ hw tables_1 i0 i1 i2  s.heap s.heap.size (Nat.le_refl _)  p e ha hc hk s m _ below hf ((Spec.applies_iff_loose hf).mp happ).1 ⟨rfl, State.Warmed39.refl s, rfl⟩ trivial
  refine ⟨n, _, h1, h2, h3, hpost _ _ _ _ _ _ ⟨Cond.after_iff.mpr rfl, Cond.after_iff.mpr (eq_i res_at (Term.int_eval (1)) rfl), trivial⟩ ⟨hq.1, hq.2.1, (hq.2.2.sift fun y hy => Or.inr (N y hy)).mono (by decide) (by decide)⟩⟩
theorem main_1_1 : Claimed_1_1 := comes_1 fun _ _ _ _ _ _ h hF => ⟨h.1, hF⟩
theorem main_1_2 : Claimed_1_2 := comes_1 fun _ _ _ _ _ _ h hF => ⟨h.2.1, hF⟩
end Jvm.Pilot.@@N@@
namespace Jvm.Pilot.@@N@@
open Jvm Jvm.ClassFile Sem Op Lib Jvm.Free Jvm.Stand Jvm.Pilot.@@N@@.Jvm.D
/-! MADE BY PROGRAM (witnessworld.py) out of the Statement's table words and the real class files: 12 classes; the members and pool entries that the words name. The judged class is class 1, her method 1. -/
namespace start1
open Jvm.ClassFile
def u (s : String) : CpInfo := .utf8 (stringToUtf16 s)
/-- a pool by its gaps: so many unusable entries, then the entry; so many at the end -/
def gap : Nat → List CpInfo → List CpInfo
  | 0, r => r
  | n + 1, r => .unusable :: gap n r
def poolList (es : List (Nat × CpInfo)) (last : Nat) : List CpInfo := es.foldr (fun e r => gap e.1 (e.2 :: r)) (gap last [])
def pool (es : List (Nat × CpInfo)) (last : Nat) : Array CpInfo := ⟨poolList es last⟩
def fileOf (pool : Array CpInfo) (this : Nat) (attrs : Array Attribute := #[]) (ms : Array MethodInfo := #[]) (fl : Nat := 33) (sup : Nat := 0) (ifs : Array Nat := #[]) (fds : Array FieldInfo := #[]) : ClassFile where
  minorVersion := 0
  majorVersion := 65
  constantPool := pool
  accessFlags := fl
  thisClass := this
  superClass := sup
  interfaces := ifs
  fields := fds
  methods := ms
  attributes := attrs
def plain (name : String) (sup : Option ClassId) : Class where
  name := name
  kind := .ordinary
  loader := none
  accessFlags := 33
  super := sup
  interfaces := #[]
  cf := none
  fields := #[]
  methods := #[]
  instanceTypes := #[]
  staticTypes := #[]
  resolved := #[]
  callSites := []
  init := .initialized
  statics := none
  mirror := none

def pool0 : Array CpInfo := pool [(5, u "<init>"), (0, u "()V"), (1, .class_ 10), (1, u "java/lang/Object")] 113

def k0c0 : Code := { maxStack := 0, maxLocals := 1, code := object_method_1_code, exceptionTable := #[], attributes := #[] }
def k0m0 : Method := { name := "<init>", desc := "()V", sig := { parameters := [], returnType := none }, accessFlags := 1, code := some k0c0 }
/-- java/lang/Object -/
def k0 : Class := { plain "java/lang/Object" none with
  accessFlags := 33
  interfaces := #[]
  cf := some (fileOf pool0 8 #[] #[{ accessFlags := 1, nameIndex := 5, descriptorIndex := 6, attributes := #[] }] 33 0 #[] #[])
  fields := #[]
  methods := #[k0m0]
  instanceTypes := #[]
  staticTypes := #[]
  resolved := Array.replicate 124 none
  statics := none }

def pool1 : Array CpInfo := pool [(2, .class_ 4), (1, u "java/lang/Object"), (0, u "<init>"), (0, u "()V"), (0, .class_ 8), (0, u "com/example/graph_of_conflicts/graphofconflicts/sql/Expression$Parameter"), (0, .methodref 7 10), (0, .nameAndType 5 11), (0, u "(IZ)V"), (0, .class_ 13), (0, u "com/example/graph_of_conflicts/graphofconflicts/sql/Expression$Literal"), (0, .methodref 12 15), (0, .nameAndType 5 16), (0, u "(Lcom/example/graph_of_conflicts/graphofconflicts/api/Value;)V"), (0, .methodref 7 18), (0, .nameAndType 19 20), (0, u "equals"), (0, u "(Ljava/lang/Object;)Z"), (0, .class_ 22), (0, u "com/example/graph_of_conflicts/graphofconflicts/sql/ParameterEqualsPinLaw"), (2, u "law"), (0, u "(III)Z")] 8

def k1m0 : Method := { name := "<init>", desc := "()V", sig := { parameters := [], returnType := none }, accessFlags := 1, code := none }
def k1c1 : Code := { maxStack := 4, maxLocals := 11, code := code, exceptionTable := #[], attributes := #[] }
def k1m1 : Method := { name := "law", desc := "(III)Z", sig := { parameters := [.int, .int, .int], returnType := some .boolean }, accessFlags := 9, code := some k1c1 }
/-- com/example/graph_of_conflicts/graphofconflicts/sql/ParameterEqualsPinLaw -/
def k1 : Class := { plain "com/example/graph_of_conflicts/graphofconflicts/sql/ParameterEqualsPinLaw" (some 0) with
  accessFlags := 49
  interfaces := #[]
  cf := some (fileOf pool1 21 #[] #[{ accessFlags := 1, nameIndex := 5, descriptorIndex := 6, attributes := #[] }, { accessFlags := 9, nameIndex := 25, descriptorIndex := 26, attributes := #[] }] 49 2 #[] #[])
  fields := #[]
  methods := #[k1m0, k1m1]
  instanceTypes := #[]
  staticTypes := #[]
  resolved := Array.replicate 35 none
  statics := none }

def pool2 : Array CpInfo := pool [(1, .class_ 2), (0, u "com/example/graph_of_conflicts/graphofconflicts/sql/Term"), (0, .class_ 4), (0, u "java/lang/Object")] 7

/-- com/example/graph_of_conflicts/graphofconflicts/sql/Term -/
def k2 : Class := { plain "com/example/graph_of_conflicts/graphofconflicts/sql/Term" (some 0) with
  accessFlags := 1536
  interfaces := #[]
  cf := some (fileOf pool2 1 #[] #[] 1536 3 #[] #[])
  fields := #[]
  methods := #[]
  instanceTypes := #[]
  staticTypes := #[]
  resolved := Array.replicate 12 none
  statics := none }

def pool3 : Array CpInfo := pool [(1, .methodref 2 3), (0, .class_ 4), (0, .nameAndType 5 6), (0, u "java/lang/Object"), (0, u "<init>"), (0, u "()V"), (25, .class_ 33), (0, u "com/example/graph_of_conflicts/graphofconflicts/sql/Expression"), (37, u "NO_ROW"), (0, u "Lcom/example/graph_of_conflicts/graphofconflicts/api/Row;"), (0, .class_ 74), (0, u "com/example/graph_of_conflicts/graphofconflicts/sql/Term"), (19, .class_ 95), (0, u "com/example/graph_of_conflicts/graphofconflicts/sql/Expression$Arithmetic"), (0, .class_ 97), (0, u "com/example/graph_of_conflicts/graphofconflicts/sql/Expression$Arithmetic$Operator"), (0, .class_ 99), (0, u "com/example/graph_of_conflicts/graphofconflicts/sql/Expression$Arithmetic$Operator$5"), (0, .class_ 101), (0, u "com/example/graph_of_conflicts/graphofconflicts/sql/Expression$Arithmetic$Operator$4"), (0, .class_ 103), (0, u "com/example/graph_of_conflicts/graphofconflicts/sql/Expression$Arithmetic$Operator$3"), (0, .class_ 105), (0, u "com/example/graph_of_conflicts/graphofconflicts/sql/Expression$Arithmetic$Operator$2"), (0, .class_ 107), (0, u "com/example/graph_of_conflicts/graphofconflicts/sql/Expression$Arithmetic$Operator$1"), (0, .class_ 109), (0, u "com/example/graph_of_conflicts/graphofconflicts/sql/Expression$Negation"), (0, .class_ 111), (0, u "com/example/graph_of_conflicts/graphofconflicts/sql/Expression$Column"), (0, .class_ 113), (0, u "com/example/graph_of_conflicts/graphofconflicts/sql/Expression$Parameter"), (0, .class_ 115), (0, u "com/example/graph_of_conflicts/graphofconflicts/sql/Expression$Literal")] 22

def k3c0 : Code := { maxStack := 1, maxLocals := 1, code := prog_112_method_1_code, exceptionTable := #[], attributes := #[] }
def k3m0 : Method := { name := "<init>", desc := "()V", sig := { parameters := [], returnType := none }, accessFlags := 0, code := some k3c0 }
/-- com/example/graph_of_conflicts/graphofconflicts/sql/Expression -/
def k3 : Class := { plain "com/example/graph_of_conflicts/graphofconflicts/sql/Expression" (some 0) with
  accessFlags := 1056
  interfaces := #[2]
  cf := some (fileOf pool3 32 #[.nestMembers #[94, 96, 98, 100, 102, 104, 106, 108, 110, 112, 114]] #[{ accessFlags := 0, nameIndex := 5, descriptorIndex := 6, attributes := #[] }] 1056 2 #[73] #[{ accessFlags := 24, nameIndex := 71, descriptorIndex := 72, attributes := #[] }])
  fields := #[{ name := "NO_ROW", type := (.object "com/example/graph_of_conflicts/graphofconflicts/api/Row"), accessFlags := 24, slot := 0, constantValue := 0 }]
  methods := #[k3m0]
  instanceTypes := #[]
  staticTypes := #[(.object "com/example/graph_of_conflicts/graphofconflicts/api/Row")]
  resolved := Array.replicate 138 none
  statics := none }

def pool4 : Array CpInfo := pool [(1, .methodref 2 3), (0, .class_ 4), (0, .nameAndType 5 6), (0, u "com/example/graph_of_conflicts/graphofconflicts/sql/Expression"), (0, u "<init>"), (0, u "()V"), (0, .fieldref 8 9), (0, .class_ 10), (0, .nameAndType 11 12), (0, u "com/example/graph_of_conflicts/graphofconflicts/sql/Expression$Parameter"), (0, u "index"), (0, u "I"), (0, .fieldref 8 14), (0, .nameAndType 15 16), (0, u "negated"), (0, u "Z"), (64, u "(IZ)V"), (11, u "equals"), (0, u "(Ljava/lang/Object;)Z")] 23

def k4c0 : Code := { maxStack := 2, maxLocals := 3, code := prog_123_method_1_code, exceptionTable := #[], attributes := #[] }
def k4m0 : Method := { name := "<init>", desc := "(IZ)V", sig := { parameters := [.int, .boolean], returnType := none }, accessFlags := 0, code := some k4c0 }
def k4c1 : Code := { maxStack := 2, maxLocals := 3, code := prog_123_method_5_code, exceptionTable := #[], attributes := #[] }
def k4m1 : Method := { name := "equals", desc := "(Ljava/lang/Object;)Z", sig := { parameters := [(.object "java/lang/Object")], returnType := some .boolean }, accessFlags := 1, code := some k4c1 }
/-- com/example/graph_of_conflicts/graphofconflicts/sql/Expression$Parameter -/
def k4 : Class := { plain "com/example/graph_of_conflicts/graphofconflicts/sql/Expression$Parameter" (some 3) with
  accessFlags := 48
  interfaces := #[]
  cf := some (fileOf pool4 8 #[.nestHost 2] #[{ accessFlags := 0, nameIndex := 5, descriptorIndex := 81, attributes := #[] }, { accessFlags := 1, nameIndex := 93, descriptorIndex := 94, attributes := #[] }] 48 2 #[] #[{ accessFlags := 18, nameIndex := 11, descriptorIndex := 12, attributes := #[] }, { accessFlags := 18, nameIndex := 15, descriptorIndex := 16, attributes := #[] }])
  fields := #[{ name := "index", type := .int, accessFlags := 18, slot := 0, constantValue := 0 }, { name := "negated", type := .boolean, accessFlags := 18, slot := 1, constantValue := 0 }]
  methods := #[k4m0, k4m1]
  instanceTypes := #[.int, .boolean]
  staticTypes := #[]
  resolved := Array.replicate 118 none
  statics := none }

def pool5 : Array CpInfo := pool [(1, .methodref 2 3), (0, .class_ 4), (0, .nameAndType 5 6), (0, u "com/example/graph_of_conflicts/graphofconflicts/sql/Expression"), (0, u "<init>"), (0, u "()V"), (0, .fieldref 8 9), (0, .class_ 10), (0, .nameAndType 11 12), (0, u "com/example/graph_of_conflicts/graphofconflicts/sql/Expression$Literal"), (0, u "value"), (0, u "Lcom/example/graph_of_conflicts/graphofconflicts/api/Value;"), (27, u "(Lcom/example/graph_of_conflicts/graphofconflicts/api/Value;)V"), (2, u "NULL"), (0, u "Lcom/example/graph_of_conflicts/graphofconflicts/sql/Expression$Literal;")] 45

def k5c0 : Code := { maxStack := 2, maxLocals := 2, code := prog_121_method_1_code, exceptionTable := #[], attributes := #[] }
def k5m0 : Method := { name := "<init>", desc := "(Lcom/example/graph_of_conflicts/graphofconflicts/api/Value;)V", sig := { parameters := [(.object "com/example/graph_of_conflicts/graphofconflicts/api/Value")], returnType := none }, accessFlags := 0, code := some k5c0 }
/-- com/example/graph_of_conflicts/graphofconflicts/sql/Expression$Literal -/
def k5 : Class := { plain "com/example/graph_of_conflicts/graphofconflicts/sql/Expression$Literal" (some 3) with
  accessFlags := 48
  interfaces := #[]
  cf := some (fileOf pool5 8 #[.nestHost 2] #[{ accessFlags := 0, nameIndex := 5, descriptorIndex := 40, attributes := #[] }] 48 2 #[] #[{ accessFlags := 24, nameIndex := 43, descriptorIndex := 44, attributes := #[] }, { accessFlags := 18, nameIndex := 11, descriptorIndex := 12, attributes := #[] }])
  fields := #[{ name := "NULL", type := (.object "com/example/graph_of_conflicts/graphofconflicts/sql/Expression$Literal"), accessFlags := 24, slot := 0, constantValue := 0 }, { name := "value", type := (.object "com/example/graph_of_conflicts/graphofconflicts/api/Value"), accessFlags := 18, slot := 0, constantValue := 0 }]
  methods := #[k5m0]
  instanceTypes := #[(.object "com/example/graph_of_conflicts/graphofconflicts/api/Value")]
  staticTypes := #[(.object "com/example/graph_of_conflicts/graphofconflicts/sql/Expression$Literal")]
  resolved := Array.replicate 90 none
  statics := none }

def pool6 : Array CpInfo := pool [(1, u "java/lang/Cloneable"), (0, .class_ 1), (0, u "java/lang/Object"), (0, .class_ 3)] 3

/-- java/lang/Cloneable -/
def k6 : Class := { plain "java/lang/Cloneable" (some 0) with
  accessFlags := 1537
  interfaces := #[]
  cf := some (fileOf pool6 2 #[] #[] 1537 4 #[] #[])
  fields := #[]
  methods := #[]
  instanceTypes := #[]
  staticTypes := #[]
  resolved := Array.replicate 8 none
  statics := none }

def pool7 : Array CpInfo := pool [(1, u "java/io/Serializable"), (0, .class_ 1), (0, u "java/lang/Object"), (0, .class_ 3)] 3

/-- java/io/Serializable -/
def k7 : Class := { plain "java/io/Serializable" (some 0) with
  accessFlags := 1537
  interfaces := #[]
  cf := some (fileOf pool7 2 #[] #[] 1537 4 #[] #[])
  fields := #[]
  methods := #[]
  instanceTypes := #[]
  staticTypes := #[]
  resolved := Array.replicate 8 none
  statics := none }

/-- the primitive byte -/
def k8 : Class := { plain "byte" none with kind := .primitive 'B', accessFlags := 0x411 }
/-- [B -/
def k9 : Class := { plain "[B" (some 0) with kind := .array 8 .byte, interfaces := #[6, 7], accessFlags := 1041 }

/-- the primitive int -/
def k10 : Class := { plain "int" none with kind := .primitive 'I', accessFlags := 0x411 }
/-- [I -/
def k11 : Class := { plain "[I" (some 0) with kind := .array 10 .int, interfaces := #[6, 7], accessFlags := 1041 }

def heap : Heap := #[]
def classes : Array Class := #[k0, k1, k2, k3, k4, k5, k6, k7, k8, k9, k10, k11]
def interned : List (Array UInt16 × Addr) := []
def slotsUsed : Nat := 0
def theMethod : MethodId := ⟨1, 1⟩
def args0 : Array Value := #[.int 5, .int 6, .int 1]
def aboutOver (below : List Frame) : State where
  vm := { classes := classes, interned := interned.toArray }
  heap := heap
  slotsUsed := slotsUsed
  threads := #[{ frames := .invoking theMethod args0 :: below }]
def below0 : List Frame := [.native { method := ⟨0, 0⟩, args := #[] }]
def about1 : State := aboutOver below0
def p0 : Program := .bare "" "" ""
def e0 : Env := launch0.env 0 0 0
theorem w_frames : about1.frames = Frame.invoking theMethod args0 :: below0 := rfl
set_option maxRecDepth 65536 in
theorem w_args : argsFit about1.vm theMethod args0 = true := by decide +kernel
set_option maxRecDepth 65536 in
theorem w_heap : heapFits about1 = true := by decide +kernel
set_option maxRecDepth 65536 in
theorem w_runnable : about1.curStatus? = some .runnable := by decide +kernel
set_option maxRecDepth 65536 in
theorem w_alone : about1.alone = true := by decide +kernel
set_option maxRecDepth 65536 in
theorem w_named : about1.methodNamed? x = some theMethod := by decide +kernel
set_option maxRecDepth 65536 in
theorem w_hears : about1.hears theMethod below0 = true := by decide +kernel
set_option maxRecDepth 65536 in
theorem w_ripe : about1.ripe theMethod args0 below0 = true := by decide +kernel
theorem w_running : about1.status = .running := rfl
set_option maxRecDepth 65536 in
theorem w_room : about1.hasRoom e0.platform room_1 = true :=
  launch0.hasRoom_least _ room_1 (by decide +kernel) (by decide +kernel) (by decide +kernel) (by decide +kernel) (by decide +kernel) (by decide +kernel)
theorem allAtoms_all (ts : List Jvm.Cond) (a : Array Jvm.Value) (st : Jvm.State) : (allAtoms ts).before a st = ts.all (fun c => c.before a st) := by
  induction ts with
  | nil => rfl
  | cons c t ih =>
    show (Jvm.Cond.and c (allAtoms t)).before a st = _
    rw [Jvm.Cond.before_and, ih, List.all_cons]
def words1 : List Jvm.Cond := Jvm.Cond.code x code maxLocals ret :: tables_1
/-- a 'code' word, met by the world's own term for the bytes: nothing is compared byte by byte -/
theorem code_word {y : MethodName} {bytes : ByteArray} {mx : Nat} {rt : Option FieldType} {a : Array Value} {s : State} {m : MethodId} {meth : Method} {c : Code} (h1 : s.methodNamed? y = some m) (h2 : s.vm.method? m = some meth) (h3 : meth.code = some c) (h4 : c.code = bytes)
    (h5 : (c.maxLocals == mx && c.exceptionTable.isEmpty && decide (c.maxStack ≤ mostOperands) && decide (meth.sig.returnType = rt) && !meth.locks && decide (parseMethodDescriptor y.desc = some meth.sig)) = true) : (Jvm.Cond.code y bytes mx rt).before a s = true := by
  simp only [Bool.and_eq_true, beq_iff_eq, Bool.not_eq_true', decide_eq_true_eq] at h5
  obtain ⟨⟨⟨⟨⟨g1, g2⟩, g3⟩, g4⟩, g5⟩, g6⟩ := h5
  simp [Cond.before, Cond.holds, Cond.value, h1, h2, h3, h4, g1, g2, g3, g4, g5, g6]
def isCode : Jvm.Cond → Bool
  | .code _ _ _ _ => true
  | _ => false
theorem all_split {L : List Jvm.Cond} {P : Jvm.Cond → Bool} (h1 : L.all (fun c => isCode c || P c) = true) (h2 : ∀ c ∈ L.filter isCode, P c = true) : L.all P = true := by
  refine List.all_eq_true.mpr fun c hc => ?_
  have h := List.all_eq_true.mp h1 c hc
  rcases Bool.eq_false_or_eq_true (isCode c) with hi | hi
  · exact h2 c (List.mem_filter.mpr ⟨hc, hi⟩)
  · simpa [hi] using h
set_option maxRecDepth 65536 in
theorem w_c0 : (Jvm.Cond.code x code maxLocals ret).before args0 about1 = true := code_word (m := ⟨1, 1⟩) (meth := k1m1) (c := k1c1) (by decide +kernel) rfl rfl rfl (by decide +kernel)
set_option maxRecDepth 65536 in
theorem w_c1 : (Jvm.Cond.code ({ cls := "com/example/graph_of_conflicts/graphofconflicts/sql/Expression$Parameter", name := "<init>", desc := "(IZ)V" } : Jvm.MethodName) prog_123_method_1_code (3 : Nat) (Option.none : Option Jvm.ClassFile.FieldType)).before args0 about1 = true := code_word (m := ⟨4, 0⟩) (meth := k4m0) (c := k4c0) (by decide +kernel) rfl rfl rfl (by decide +kernel)
set_option maxRecDepth 65536 in
theorem w_c2 : (Jvm.Cond.code ({ cls := "com/example/graph_of_conflicts/graphofconflicts/sql/Expression", name := "<init>", desc := "()V" } : Jvm.MethodName) prog_112_method_1_code (1 : Nat) (Option.none : Option Jvm.ClassFile.FieldType)).before args0 about1 = true := code_word (m := ⟨3, 0⟩) (meth := k3m0) (c := k3c0) (by decide +kernel) rfl rfl rfl (by decide +kernel)
set_option maxRecDepth 65536 in
theorem w_c3 : (Jvm.Cond.code ({ cls := "java/lang/Object", name := "<init>", desc := "()V" } : Jvm.MethodName) object_method_1_code (1 : Nat) (Option.none : Option Jvm.ClassFile.FieldType)).before args0 about1 = true := code_word (m := ⟨0, 0⟩) (meth := k0m0) (c := k0c0) (by decide +kernel) rfl rfl rfl (by decide +kernel)
set_option maxRecDepth 65536 in
theorem w_c4 : (Jvm.Cond.code ({ cls := "com/example/graph_of_conflicts/graphofconflicts/sql/Expression$Literal", name := "<init>", desc := "(Lcom/example/graph_of_conflicts/graphofconflicts/api/Value;)V" } : Jvm.MethodName) prog_121_method_1_code (2 : Nat) (Option.none : Option Jvm.ClassFile.FieldType)).before args0 about1 = true := code_word (m := ⟨5, 0⟩) (meth := k5m0) (c := k5c0) (by decide +kernel) rfl rfl rfl (by decide +kernel)
set_option maxRecDepth 65536 in
theorem w_c5 : (Jvm.Cond.code ({ cls := "com/example/graph_of_conflicts/graphofconflicts/sql/Expression$Parameter", name := "equals", desc := "(Ljava/lang/Object;)Z" } : Jvm.MethodName) prog_123_method_5_code (3 : Nat) (Option.some Jvm.ClassFile.FieldType.boolean)).before args0 about1 = true := code_word (m := ⟨4, 1⟩) (meth := k4m1) (c := k4c1) (by decide +kernel) rfl rfl rfl (by decide +kernel)
def codes1 : List Jvm.Cond := [Jvm.Cond.code x code maxLocals ret, Jvm.Cond.code ({ cls := "com/example/graph_of_conflicts/graphofconflicts/sql/Expression$Parameter", name := "<init>", desc := "(IZ)V" } : Jvm.MethodName) prog_123_method_1_code (3 : Nat) (Option.none : Option Jvm.ClassFile.FieldType), Jvm.Cond.code ({ cls := "com/example/graph_of_conflicts/graphofconflicts/sql/Expression", name := "<init>", desc := "()V" } : Jvm.MethodName) prog_112_method_1_code (1 : Nat) (Option.none : Option Jvm.ClassFile.FieldType), Jvm.Cond.code ({ cls := "java/lang/Object", name := "<init>", desc := "()V" } : Jvm.MethodName) object_method_1_code (1 : Nat) (Option.none : Option Jvm.ClassFile.FieldType), Jvm.Cond.code ({ cls := "com/example/graph_of_conflicts/graphofconflicts/sql/Expression$Literal", name := "<init>", desc := "(Lcom/example/graph_of_conflicts/graphofconflicts/api/Value;)V" } : Jvm.MethodName) prog_121_method_1_code (2 : Nat) (Option.none : Option Jvm.ClassFile.FieldType), Jvm.Cond.code ({ cls := "com/example/graph_of_conflicts/graphofconflicts/sql/Expression$Parameter", name := "equals", desc := "(Ljava/lang/Object;)Z" } : Jvm.MethodName) prog_123_method_5_code (3 : Nat) (Option.some Jvm.ClassFile.FieldType.boolean)]
set_option maxRecDepth 65536 in
theorem codes_eq : words1.filter isCode = codes1 := rfl
theorem w_codes : ∀ c ∈ words1.filter isCode, c.before args0 about1 = true := by
  rw [codes_eq]
  intro c hc
  simp only [codes1, List.mem_cons, List.not_mem_nil, or_false] at hc
  rcases hc with rfl | rfl | rfl | rfl | rfl | rfl
  · exact w_c0
  · exact w_c1
  · exact w_c2
  · exact w_c3
  · exact w_c4
  · exact w_c5
set_option maxRecDepth 65536 in
theorem w_t1 : (words1.take 24).all (fun c => isCode c || c.before args0 about1) = true := by decide +kernel
set_option maxRecDepth 65536 in
theorem w_t2 : (words1.drop 24).all (fun c => isCode c || c.before args0 about1) = true := by decide +kernel
theorem w_tables : (allAtoms (Jvm.Cond.code x code maxLocals ret :: tables_1)).before args0 about1 = true := by
  rw [allAtoms_all]
  show words1.all (fun c => c.before args0 about1) = true
  refine all_split ?_ w_codes
  rw [← List.take_append_drop 24 words1, List.all_append, w_t1, w_t2]
  rfl
set_option maxRecDepth 65536 in
theorem w_case : (Jvm.Cond.and given_1 narrow_1).before args0 about1 = true := by decide +kernel
theorem w_applies : (headSpec (Jvm.Cond.code x code maxLocals ret :: tables_1) room_1).applies x e0.platform about1 = true :=
  (Spec.applies_iff w_frames).mpr ⟨w_running, w_runnable, w_alone, w_named, w_hears, w_ripe, w_room, w_tables⟩
theorem atStart : AtStart classFile x code maxLocals ret World_1 tables_1 room_1 Calls_1 rest_1 Pre_1 launch0 p0 e0 about1 theMethod args0 below0 :=
  ⟨lists_1, trivial, launch0.admits_env _ _ _, launch0.least_env, fairChoices_fair.cas, fairChoices_fair.clock, w_frames, w_args, w_heap, w_applies, trivial, trivial, w_case⟩
end start1
theorem witness_1 : WitnessClaimed_1 := ⟨start1.p0, start1.e0, start1.about1, start1.theMethod, start1.args0, start1.below0, start1.atStart⟩
end Jvm.Pilot.@@N@@
