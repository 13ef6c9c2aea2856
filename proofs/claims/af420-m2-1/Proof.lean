import JvmDerived
import JvmDerived.Pilot.@@N@@Statement
import JvmDerived.Pilot.@@N@@Code
set_option linter.unusedVariables false
set_option linter.unusedSimpArgs false
namespace Jvm.RoadKit
open Sem ClassFile Op Lib Jvm.Stand Jvm.Free Jvm.LawKit
section OwnFlow
variable {p : Program} {l : Launch} {e : Env} {R : Room} {s : State} {m : MethodId} {args : Array Value} {below : List Frame} {meth : Method} {c : Code} {T : State} {locs : List Loc} {cells slots : Nat} {P : State → Outcome → Prop} {Q : Option Value → Heap → List Loc → Prop} {C S : Nat}
/-- from t the run comes to an end at which P holds -/
def OGo (p : Program) (e : Env) (below : List Frame) (P : State → Outcome → Prop) (t : State) : Prop := ∃ s₂ o, Steps p.tables e below t s₂ ∧ s₂.status = .running ∧ Ended s₂ below o ∧ P s₂ o
/-- it returned; Q of the value, the heap and the places written; the frame -/
def OPost (s : State) (Q : Option Value → Heap → List Loc → Prop) (C S : Nat) (s₂ : State) (o : Outcome) : Prop := ∃ v L, o = .returned v ∧ Q v s₂.heap L ∧ FrameEnd s o s₂ L C S
theorem OGo.step {t t' : State} (h : ∀ u, Steps p.tables e below t' u → Steps p.tables e below t u) (g : OGo p e below P t') : OGo p e below P t := by
  obtain ⟨s2, o, h1, h2⟩ := g
  exact ⟨s2, o, h _ h1, h2⟩
theorem OGo.steps {t t' : State} (h : Steps p.tables e below t t') (g : OGo p e below P t') : OGo p e below P t := OGo.step (fun _ k => h.trans k) g
theorem OGo.retI (X : Stand p l e R s m args below meth c T locs cells slots) (hx : p.tables.exec = Jvm.exec) (hk : meth.locks = false) {pc : Nat} {Ls : Array Slot} {z : Int32} {rest : List Value} (hret : meth.sig.returnType = some .int) (hd : decode c.code pc = .ok (.ireturn, 1))
    (hc : cells ≤ C) (hs : slots ≤ S) (q : Q (some (.int z)) T.heap locs) : OGo p e below (OPost s Q C S) (T.setTop (mkF m pc Ls (.int z :: rest))) := by
  obtain ⟨fs, hr, hrun, hended, hW, hsame⟩ := X.leave (v := some (.int z)) (fun h => by rw [hret] at h; cases h) hk
  exact ⟨_, _, retOut X hx hret rfl (Or.inl ⟨rfl, Or.inl rfl, _, rfl⟩) hd hr, hrun, hended, _, _, rfl, q, ⟨_, rfl⟩, hW, hsame.mono hc hs⟩
theorem OGo.retN (X : Stand p l e R s m args below meth c T locs cells slots) (hx : p.tables.exec = Jvm.exec) (hk : meth.locks = false) {pc : Nat} {Ls : Array Slot} {z : Int32} {t : FieldType} {rest : List Value} (hret : meth.sig.returnType = some t) (ht : t = .boolean ∨ t = .byte ∨ t = .char ∨ t = .short) (hd : decode c.code pc = .ok (.ireturn, 1))
    (hc : cells ≤ C) (hs : slots ≤ S) (q : Q (some (.int (nar t z))) T.heap locs) : OGo p e below (OPost s Q C S) (T.setTop (mkF m pc Ls (.int z :: rest))) := by
  obtain ⟨fs, hr, hrun, hended, hW, hsame⟩ := X.leave (v := some (.int (nar t z))) (fun h => by rw [hret] at h; cases h) hk
  exact ⟨_, _, Jvm.RoadKit.retN X hx hret ht hd hr, hrun, hended, _, _, rfl, q, ⟨_, rfl⟩, hW, hsame.mono hc hs⟩
theorem OGo.retJ (X : Stand p l e R s m args below meth c T locs cells slots) (hx : p.tables.exec = Jvm.exec) (hk : meth.locks = false) {pc : Nat} {Ls : Array Slot} {z : Int64} {rest : List Value} (hret : meth.sig.returnType = some .long) (hd : decode c.code pc = .ok (.lreturn, 1))
    (hc : cells ≤ C) (hs : slots ≤ S) (q : Q (some (.long z)) T.heap locs) : OGo p e below (OPost s Q C S) (T.setTop (mkF m pc Ls (.long z :: rest))) := by
  obtain ⟨fs, hr, hrun, hended, hW, hsame⟩ := X.leave (v := some (.long z)) (fun h => by rw [hret] at h; cases h) hk
  exact ⟨_, _, retOut X hx hret rfl (Or.inr (Or.inl ⟨rfl, rfl, _, rfl⟩)) hd hr, hrun, hended, _, _, rfl, q, ⟨_, rfl⟩, hW, hsame.mono hc hs⟩
theorem OGo.retR (X : Stand p l e R s m args below meth c T locs cells slots) (hx : p.tables.exec = Jvm.exec) (hk : meth.locks = false) {pc : Nat} {Ls : Array Slot} {w : Value} {t : FieldType} {rest : List Value} (hret : meth.sig.returnType = some t) (ht : t.isReference = true) (hw : w.isRef = true) (hd : decode c.code pc = .ok (.areturn, 1))
    (hc : cells ≤ C) (hs : slots ≤ S) (q : Q (some w) T.heap locs) : OGo p e below (OPost s Q C S) (T.setTop (mkF m pc Ls (w :: rest))) := by
  obtain ⟨fs, hr, hrun, hended, hW, hsame⟩ := X.leave (v := some w) (fun h => by rw [hret] at h; cases h) hk
  have hn : narrow t w = w := by rcases ref_cases hw with rfl | ⟨a, rfl⟩ <;> cases t <;> first | rfl | (simp [FieldType.isReference] at ht)
  exact ⟨_, _, retOut X hx hret hn (Or.inr (Or.inr (Or.inr (Or.inr ⟨rfl, ht, hw⟩)))) hd hr, hrun, hended, _, _, rfl, q, ⟨_, rfl⟩, hW, hsame.mono hc hs⟩
theorem OGo.retV (X : Stand p l e R s m args below meth c T locs cells slots) (hx : p.tables.exec = Jvm.exec) (hk : meth.locks = false) {pc : Nat} {Ls : Array Slot} (hret : meth.sig.returnType = none) (hd : decode c.code pc = .ok (.return_, 1))
    (hc : cells ≤ C) (hs : slots ≤ S) (q : Q none T.heap locs) : OGo p e below (OPost s Q C S) (T.setTop (mkF m pc Ls [])) := by
  obtain ⟨fs, hr, hrun, hended, hW, hsame⟩ := X.leave (v := none) (fun _ => rfl) hk
  exact ⟨_, _, X.returnOut hx hret hd hr, hrun, hended, _, _, rfl, q, ⟨_, rfl⟩, hW, hsame.mono hc hs⟩
end OwnFlow
end Jvm.RoadKit
namespace Jvm.Pilot.@@N@@
open Jvm Jvm.ClassFile Sem Op Lib Jvm.Free Jvm.Stand Jvm.LawKit Jvm.RoadKit Bundle Jvm.Pilot.@@N@@.Jvm.D
theorem own_selP {s : State} {args : Array Value} {y : MethodName} {n : Nat} (wi : (Cond.instantiable y.cls n).before args s = true) (wp : (Cond.privateMethod y).before args s = true) (hinst : (Cond.instanceMethod y).before args s = true) (hy : y.cls ≠ "java/lang/invoke/MethodHandle" ∧ y.cls ≠ "java/lang/invoke/VarHandle") : (Cond.selects y.cls y y).before args s = true := by
  obtain ⟨c, k, h1, h2, -, h4, -⟩ := Cond.instantiable_spec wi
  have h5 : k.isInterface = false := by
    cases hi : k.isInterface
    · rfl
    · rw [hi] at h4; cases h4
  exact selects_self_of_private h1 h2 h5 (Cond.privateMethod_at wp) hinst hy
theorem own_max (x y m : Int64) (h : m = (if x < y then y else x)) : x < m ∨ m = x := by
  by_cases c : x < y
  · rw [if_pos c] at h; subst h; exact Or.inl c
  · rw [if_neg c] at h; exact Or.inr h
theorem own_c8 (z c : Int32) (h : c = (z &&& (7 : Int32))) : c = (0 : Int32) ∨ c = (1 : Int32) ∨ c = (2 : Int32) ∨ c = (3 : Int32) ∨ c = (4 : Int32) ∨ c = (5 : Int32) ∨ c = (6 : Int32) ∨ c = (7 : Int32) := by
  have a := c_mask z 7 3 (by decide) (by decide)
  rw [← h] at a
  have e : ∀ k : Int32, c.toInt = k.toInt → c = k := fun k q => Int32.toInt_inj.mp q
  have e0 : (0 : Int32).toInt = 0 := by decide
  have e1 : (1 : Int32).toInt = 1 := by decide
  have e2 : (2 : Int32).toInt = 2 := by decide
  have e3 : (3 : Int32).toInt = 3 := by decide
  have e4 : (4 : Int32).toInt = 4 := by decide
  have e5 : (5 : Int32).toInt = 5 := by decide
  have e6 : (6 : Int32).toInt = 6 := by decide
  have e7 : (7 : Int32).toInt = 7 := by decide
  have : c.toInt = 0 ∨ c.toInt = 1 ∨ c.toInt = 2 ∨ c.toInt = 3 ∨ c.toInt = 4 ∨ c.toInt = 5 ∨ c.toInt = 6 ∨ c.toInt = 7 := by omega
  rcases this with q | q | q | q | q | q | q | q
  · exact Or.inl (e _ (by rw [q, e0]))
  · exact Or.inr (Or.inl (e _ (by rw [q, e1])))
  · exact Or.inr (Or.inr (Or.inl (e _ (by rw [q, e2]))))
  · exact Or.inr (Or.inr (Or.inr (Or.inl (e _ (by rw [q, e3])))))
  · exact Or.inr (Or.inr (Or.inr (Or.inr (Or.inl (e _ (by rw [q, e4]))))))
  · exact Or.inr (Or.inr (Or.inr (Or.inr (Or.inr (Or.inl (e _ (by rw [q, e5])))))))
  · exact Or.inr (Or.inr (Or.inr (Or.inr (Or.inr (Or.inr (Or.inl (e _ (by rw [q, e6]))))))))
  · exact Or.inr (Or.inr (Or.inr (Or.inr (Or.inr (Or.inr (Or.inr (e _ (by rw [q, e7]))))))))
theorem own_lirr (x : Int64) : ¬ x < x := fun h => by rw [Int64.lt_iff_toInt_lt] at h; omega
theorem own_lasy {x y : Int64} (h : x < y) : ¬ y < x := fun k => by rw [Int64.lt_iff_toInt_lt] at h k; omega
theorem d1_0 : decode jdk_29_method_66_code 0 = .ok (.lload_n 0, 1) := by decide +kernel
theorem d1_1 : decode jdk_29_method_66_code 1 = .ok (.lload_n 2, 1) := by decide +kernel
theorem d1_2 : decode jdk_29_method_66_code 2 = .ok (.lcmp, 1) := by decide +kernel
theorem d1_3 : decode jdk_29_method_66_code 3 = .ok (.ifCond .lt 7, 3) := by decide +kernel
theorem d1_6 : decode jdk_29_method_66_code 6 = .ok (.lload_n 0, 1) := by decide +kernel
theorem d1_7 : decode jdk_29_method_66_code 7 = .ok (.goto 4, 3) := by decide +kernel
theorem d1_10 : decode jdk_29_method_66_code 10 = .ok (.lload_n 2, 1) := by decide +kernel
theorem d1_11 : decode jdk_29_method_66_code 11 = .ok (.lreturn, 1) := by decide +kernel
theorem efmx (m : MethodId) (x0 : Int64) (x1 : Int64) : entryFrame m #[(.long x0), (.long x1)] 4 = mkF m 0 #[.val (.long x0), .second, .val (.long x1), .second] [] := by first | (simp [entryFrame, mkF, argsToLocals, Value.category]; done) | rfl
def Qmx (Z : State) (q1 : Int64) (q2 : Int64) (h0 : Heap) (n0 : Nat) (v : Option Value) (h : Heap) (L : List Loc) : Prop := v = some (.long (if q1 < q2 then q2 else q1)) ∧ Fr n0 L ∧ h = h0
set_option maxRecDepth 65536 in
set_option maxHeartbeats 40000000 in
theorem rmmx (l : Launch) (Z : State) (a0 : Array Value) (hw : ∀ d ∈ tables_1, d.before a0 Z = true) (ws : List Jvm.Cond) (q1 : Int64) (q2 : Int64) (h0 : Heap) (n0 : Nat) (Z0 : n0 ≤ h0.size) :
    MetFree l (⟨"java/lang/Math", "max", "(JJ)J"⟩ : MethodName) (head1 (Jvm.Cond.code (⟨"java/lang/Math", "max", "(JJ)J"⟩ : MethodName) jdk_29_method_66_code 4 (some .long) :: ws) ({ frames := 0, cells := 0, slots := 0, locals := 0 } : Room)) (fun aQ UQ => aQ = #[(.long q1), (.long q2)] ∧ Z.Warmed39 UQ.vm ∧ UQ.heap = h0) (fun _ _ _ _ _ => True) (fun _ U o U' => ∃ v L, o = .returned v ∧ Qmx Z q1 q2 h0 n0 v U'.heap L ∧ FrameEnd U o U' L ({ frames := 0, cells := 0, slots := 0, locals := 0 } : Room).cells ({ frames := 0, cells := 0, slots := 0, locals := 0 } : Room).slots) := by
  refine MetFree.of_bodySF (Jvm.Free.JP.mathPlain rfl (by decide +kernel)) hisR ?_
  intro p e s m args below meth c s₁ Bd hml0 hP hK
  obtain ⟨rfl, hZ, hh⟩ := hP
  have hx := Bd.exec
  have hby := Bd.bytes
  have hml : c.maxLocals = 4 := hml0
  have hown : s.vm.findClass "java/lang/Math" = some m.cls := findClass_of_methodNamed Bd.named
  have hnm := (name_of_methodNamed Bd.named Bd.method).1
  have X0 : Stand p l e ({ frames := 0, cells := 0, slots := 0, locals := 0 } : Room) s m #[(.long q1), (.long q2)] below meth c s₁ [] 0 0 := Stand.of_body Bd
  have e0 : s₁.heap = h0 := by rw [← hh, Bd.state]; rfl
  have N0 := Fr.nil n0
  show OGo p e below (OPost s (Qmx Z q1 q2 h0 n0) ({ frames := 0, cells := 0, slots := 0, locals := 0 } : Room).cells ({ frames := 0, cells := 0, slots := 0, locals := 0 } : Room).slots) (s₁.setTop (entryFrame m #[(.long q1), (.long q2)] 4))
  refine OGo.step (fun uK kK => castTop (efmx m q1 q2) kK) ?_
  show OGo p e below _ (s₁.setTop (mkF m 0 #[.val (.long q1), .second, .val (.long q2), .second] []))
  refine OGo.step (fun uK kK => XS.lloadN X0.here hx rfl (hb hby d1_0) rfl kK) ?_
  show OGo p e below _ (s₁.setTop (mkF m 1 #[.val (.long q1), .second, .val (.long q2), .second] [(.long q1)]))
  refine OGo.step (fun uK kK => XS.lloadN X0.here hx rfl (hb hby d1_1) rfl kK) ?_
  show OGo p e below _ (s₁.setTop (mkF m 2 #[.val (.long q1), .second, .val (.long q2), .second] [(.long q2), (.long q1)]))
  refine OGo.step (fun uK kK => XS.lcmp X0.here hx rfl (hb hby d1_2) rfl kK) ?_
  show OGo p e below _ (s₁.setTop (mkF m 3 #[.val (.long q1), .second, .val (.long q2), .second] [(.int (lcmpW q1 q2))]))
  refine OGo.step (t' := s₁.setTop (mkF m 11 #[.val (.long q1), .second, .val (.long q2), .second] [(.long (if q1 < q2 then q2 else q1))])) (fun uK kK => ?_) ?_
  · show Steps p.tables e below (s₁.setTop (mkF m 3 #[.val (.long q1), .second, .val (.long q2), .second] [(.int (lcmpW q1 q2))])) _
    by_cases hm3_1 : q1 < q2
    · try rw [if_pos hm3_1] at kK
      refine XS.ifYes X0.here hx rfl (pc0 := 3) (pc' := 10) rfl (hb hby d1_3) rfl ((if0 _ _).trans (tlt ((lw_lt _ _).mpr hm3_1)).1) (by decide) (by decide) ?_
      refine XS.lloadN X0.here hx rfl (hb hby d1_10) rfl ?_
      show Steps p.tables e below (s₁.setTop (mkF m 11 #[.val (.long q1), .second, .val (.long q2), .second] [(.long q2)])) _
      exact kK
    · try rw [if_neg hm3_1] at kK
      refine XS.ifNo X0.here hx rfl (hb hby d1_3) rfl ((if0 _ _).trans (flt (fun q => hm3_1 ((lw_lt _ _).mp q))).1) ?_
      refine XS.lloadN X0.here hx rfl (hb hby d1_6) rfl ?_
      show Steps p.tables e below (s₁.setTop (mkF m 7 #[.val (.long q1), .second, .val (.long q2), .second] [(.long q1)])) _
      refine XS.goto X0.here hx rfl (pc0 := 7) (pc' := 11) rfl (hb hby d1_7) (by decide) (by decide) ?_
      show Steps p.tables e below (s₁.setTop (mkF m 11 #[.val (.long q1), .second, .val (.long q2), .second] [(.long q1)])) _
      exact kK
  show OGo p e below _ (s₁.setTop (mkF m 11 #[.val (.long q1), .second, .val (.long q2), .second] [(.long (if q1 < q2 then q2 else q1))]))
  exact OGo.retJ X0 hx Bd.notSynchronized Bd.returns (hb hby d1_11) (by decide) (by decide) (by show Qmx Z q1 q2 h0 n0 _ s₁.heap _; rw [e0]; exact ⟨rfl, N0, rfl⟩)
theorem d2_0 : decode prog_55_method_1_code 0 = .ok (.aload_n 0, 1) := by decide +kernel
theorem d2_1 : decode prog_55_method_1_code 1 = .ok (.invokespecial 1, 3) := by decide +kernel
theorem d2_4 : decode prog_55_method_1_code 4 = .ok (.aload_n 0, 1) := by decide +kernel
theorem d2_5 : decode prog_55_method_1_code 5 = .ok (.bipush 8, 2) := by decide +kernel
theorem d2_7 : decode prog_55_method_1_code 7 = .ok (.newarray .long, 2) := by decide +kernel
theorem d2_9 : decode prog_55_method_1_code 9 = .ok (.putfield 7, 3) := by decide +kernel
theorem d2_12 : decode prog_55_method_1_code 12 = .ok (.aload_n 0, 1) := by decide +kernel
theorem d2_13 : decode prog_55_method_1_code 13 = .ok (.bipush 8, 2) := by decide +kernel
theorem d2_15 : decode prog_55_method_1_code 15 = .ok (.newarray .int, 2) := by decide +kernel
theorem d2_17 : decode prog_55_method_1_code 17 = .ok (.putfield 13, 3) := by decide +kernel
theorem d2_20 : decode prog_55_method_1_code 20 = .ok (.return_, 1) := by decide +kernel
theorem pni : plainName "com/example/graph_of_conflicts/graphofconflicts/engine/OpenSnapshots" = true := by first | (simp [plainName, overriddenIn]; done) | decide +kernel
theorem efi (m : MethodId) (x0 : Addr) : entryFrame m #[(.ref x0)] 1 = mkF m 0 #[.val (.ref x0)] [] := by first | (simp [entryFrame, mkF, argsToLocals, Value.category]; done) | rfl
def Qi (Z : State) (a : Addr) (h0 : Heap) (n0 : Nat) (v : Option Value) (h : Heap) (L : List Loc) : Prop := v = none ∧ Fr n0 L ∧ Keep h0 h [a] ∧ ∃ (aS : Addr) (kS : ClassId) (aH : Addr) (kH : ClassId), n0 ≤ aS ∧ n0 ≤ aH ∧ h0.size ≤ aS ∧ h0.size ≤ aH ∧ aS ≠ aH ∧ Fld Z h a "com/example/graph_of_conflicts/graphofconflicts/engine/OpenSnapshots" "snapshots" "[J" (.ref aS) ∧ Fld Z h a "com/example/graph_of_conflicts/graphofconflicts/engine/OpenSnapshots" "holders" "[I" (.ref aH) ∧ Fld Z h a "com/example/graph_of_conflicts/graphofconflicts/engine/OpenSnapshots" "size" "I" (.int (0 : Int32)) ∧ Arv Z h aS kS .long (8 : Int32) [(.long (0 : Int64)), (.long (0 : Int64)), (.long (0 : Int64)), (.long (0 : Int64)), (.long (0 : Int64)), (.long (0 : Int64)), (.long (0 : Int64)), (.long (0 : Int64))] (.long (0 : Int64)) ∧ Arv Z h aH kH .int (8 : Int32) [(.int (0 : Int32)), (.int (0 : Int32)), (.int (0 : Int32)), (.int (0 : Int32)), (.int (0 : Int32)), (.int (0 : Int32)), (.int (0 : Int32)), (.int (0 : Int32))] (.int (0 : Int32))
set_option maxRecDepth 65536 in
set_option maxHeartbeats 40000000 in
theorem rmi (l : Launch) (Z : State) (a0 : Array Value) (hw : ∀ d ∈ tables_1, d.before a0 Z = true) (ws : List Jvm.Cond) (a : Addr) (h0 : Heap) (n0 : Nat) (Z0 : n0 ≤ h0.size) (Fs : Fld Z h0 a "com/example/graph_of_conflicts/graphofconflicts/engine/OpenSnapshots" "snapshots" "[J" .null) (Fh : Fld Z h0 a "com/example/graph_of_conflicts/graphofconflicts/engine/OpenSnapshots" "holders" "[I" .null) (Fn : Fld Z h0 a "com/example/graph_of_conflicts/graphofconflicts/engine/OpenSnapshots" "size" "I" (.int (0 : Int32))) (Ex : Exa Z h0 a "com/example/graph_of_conflicts/graphofconflicts/engine/OpenSnapshots") (ga : n0 ≤ a) :
    MetFree l (⟨"com/example/graph_of_conflicts/graphofconflicts/engine/OpenSnapshots", "<init>", "()V"⟩ : MethodName) (head1 (Jvm.Cond.code (⟨"com/example/graph_of_conflicts/graphofconflicts/engine/OpenSnapshots", "<init>", "()V"⟩ : MethodName) prog_55_method_1_code 1 none :: ws) ({ frames := 1, cells := 2, slots := 16, locals := 12 } : Room)) (fun aQ UQ => aQ = #[(.ref a)] ∧ Z.Warmed39 UQ.vm ∧ UQ.heap = h0) (fun _ _ _ _ _ => True) (fun _ U o U' => ∃ v L, o = .returned v ∧ Qi Z a h0 n0 v U'.heap L ∧ FrameEnd U o U' L ({ frames := 1, cells := 2, slots := 16, locals := 12 } : Room).cells ({ frames := 1, cells := 2, slots := 16, locals := 12 } : Room).slots) := by
  refine MetFree.of_bodySF (plainFor_of_name pni) hisR ?_
  intro p e s m args below meth c s₁ Bd hml0 hP hK
  obtain ⟨rfl, hZ, hh⟩ := hP
  have hx := Bd.exec
  have hby := Bd.bytes
  have hml : c.maxLocals = 1 := hml0
  have hown : s.vm.findClass "com/example/graph_of_conflicts/graphofconflicts/engine/OpenSnapshots" = some m.cls := findClass_of_methodNamed Bd.named
  have hnm := (name_of_methodNamed Bd.named Bd.method).1
  have X0 : Stand p l e ({ frames := 1, cells := 2, slots := 16, locals := 12 } : Room) s m #[(.ref a)] below meth c s₁ [] 0 0 := Stand.of_body Bd
  have e0 : s₁.heap = h0 := by rw [← hh, Bd.state]; rfl
  have N0 := Fr.nil n0
  show OGo p e below (OPost s (Qi Z a h0 n0) ({ frames := 1, cells := 2, slots := 16, locals := 12 } : Room).cells ({ frames := 1, cells := 2, slots := 16, locals := 12 } : Room).slots) (s₁.setTop (entryFrame m #[(.ref a)] 1))
  refine OGo.step (fun uK kK => castTop (efi m a) kK) ?_
  show OGo p e below _ (s₁.setTop (mkF m 0 #[.val (.ref a)] []))
  refine OGo.step (fun uK kK => XS.aloadN X0.here hx rfl (hb hby d2_0) rfl rfl kK) ?_
  show OGo p e below _ (s₁.setTop (mkF m 1 #[.val (.ref a)] [(.ref a)]))
  obtain ⟨T1, X1, e1, st1⟩ := initO X0 hx hZ hown (hw _ (List.mem_of_getElem? (i := 11) rfl)) (hw _ (List.mem_of_getElem? (i := 12) rfl)) (hw _ (List.mem_of_getElem? (i := 13) rfl)) e0 (g := (mkF m 1 #[.val (.ref a)] [(.ref a)])) rfl (by rw [hml]; rfl) rfl (hb hby d2_1) (by decide) (W := 0) (by show 2 * 0 + _ ≤ _; exact Nat.le_of_eq rfl) (by decide)
  refine OGo.step (fun uK kK => st1 uK kK) ?_
  show OGo p e below _ (T1.setTop (mkF m 4 #[.val (.ref a)] []))
  refine OGo.step (fun uK kK => XS.aloadN X1.here hx rfl (hb hby d2_4) rfl rfl kK) ?_
  show OGo p e below _ (T1.setTop (mkF m 5 #[.val (.ref a)] [(.ref a)]))
  refine OGo.step (fun uK kK => XS.bipush X1.here hx rfl (hb hby d2_5) kK) ?_
  show OGo p e below _ (T1.setTop (mkF m 7 #[.val (.ref a)] [(.int (8 : Int32)), (.ref a)]))
  obtain ⟨T2, h2, ki2, X2, e2, E2, A2, st2⟩ := newP X1 hx hZ (hw _ (List.mem_of_getElem? (i := 14) rfl)) e1 (g := (mkF m 7 #[.val (.ref a)] [(.int (8 : Int32)), (.ref a)])) rfl (hb hby d2_7) rfl (by decide) (cap := 8) (by decide) (by decide) (by decide) (by decide)
  obtain ⟨b2, g2⟩ : ∃ z, z = h0.size := ⟨_, rfl⟩
  rw [← g2] at A2 st2
  have ne_a_b2 : a ≠ b2 := Nat.ne_of_lt (Nat.lt_of_lt_of_le Fs.lt (Nat.le_of_eq g2.symm))
  have gn_b2 : n0 ≤ b2 := Nat.le_trans Z0 (Nat.le_of_eq g2.symm)
  have sz_b2 : h0.size ≤ b2 := Nat.le_trans (Keep.refl h0 [a]).1 (Nat.le_of_eq g2.symm)
  have Fs_3 := (Fs.ext E2)
  have Fh_4 := (Fh.ext E2)
  have Fn_5 := (Fn.ext E2)
  have Ex_6 := (Ex.ext E2)
  have ZS2 : n0 ≤ h2.size := Nat.le_trans Z0 E2.1
  have KC2 : Keep h0 h2 [a] := (Keep.refl h0 [a]).ext E2
  have V_b2 : Arv Z h2 b2 ki2 .long (8 : Int32) [(.long (0 : Int64)), (.long (0 : Int64)), (.long (0 : Int64)), (.long (0 : Int64)), (.long (0 : Int64)), (.long (0 : Int64)), (.long (0 : Int64)), (.long (0 : Int64))] (.long (0 : Int64)) := (Arv.new A2 (by decide)).pad (pad_rep [] (.long (0 : Int64)) 8)
  refine OGo.step (fun uK kK => st2 uK kK) ?_
  show OGo p e below _ (T2.setTop (mkF m 9 #[.val (.ref a)] [(.ref b2), (.ref a)]))
  obtain ⟨T7, h7, X7, e7, W7, st7⟩ := putF X2 hx hZ hown (host := "") (Or.inl (hw _ (List.mem_of_getElem? (i := 15) rfl))) Via.refl e2 Fs_3 Ex_6 (Or.inl (hw _ (List.mem_of_getElem? (i := 16) rfl))) (hw _ (List.mem_of_getElem? (i := 6) rfl)) (ty := (.array .long)) (by decide) rfl rfl (g := (mkF m 9 #[.val (.ref a)] [(.ref b2), (.ref a)])) rfl rfl (hb hby d2_9)
  have Fw7 := Fs_3.same W7
  have Fh_9 := (Fh_4.other W7 (Or.inr (slot_ne (Or.inl (hw _ (List.mem_of_getElem? (i := 19) rfl))) (Or.inl (hw _ (List.mem_of_getElem? (i := 16) rfl))) (by decide) (t := (.array .int)) (t' := (.array .long)) (by decide) (by decide))))
  have Fn_10 := (Fn_5.other W7 (Or.inr (slot_ne (Or.inl (hw _ (List.mem_of_getElem? (i := 30) rfl))) (Or.inl (hw _ (List.mem_of_getElem? (i := 16) rfl))) (by decide) (t := .int) (t' := (.array .long)) (by decide) (by decide))))
  have Ex_11 := (Ex_6.wr W7)
  have V_b2_12 := (V_b2.other W7 (Ne.symm ne_a_b2))
  have ZS7 : n0 ≤ h7.size := Nat.le_trans ZS2 (Keep.of_wr W7).1
  have KC7 : Keep h0 h7 [a] := KC2.wr W7 (Or.inl (List.mem_of_getElem? (i := 0) rfl))
  have N7 := Fr.snoc X7 N0 ga
  refine OGo.step (fun uK kK => st7 uK kK) ?_
  show OGo p e below _ (T7.setTop (mkF m 12 #[.val (.ref a)] []))
  refine OGo.step (fun uK kK => XS.aloadN X7.here hx rfl (hb hby d2_12) rfl rfl kK) ?_
  show OGo p e below _ (T7.setTop (mkF m 13 #[.val (.ref a)] [(.ref a)]))
  refine OGo.step (fun uK kK => XS.bipush X7.here hx rfl (hb hby d2_13) kK) ?_
  show OGo p e below _ (T7.setTop (mkF m 15 #[.val (.ref a)] [(.int (8 : Int32)), (.ref a)]))
  obtain ⟨T13, h13, ki13, X13, e13, E13, A13, st13⟩ := newP X7 hx hZ (hw _ (List.mem_of_getElem? (i := 17) rfl)) e7 (g := (mkF m 15 #[.val (.ref a)] [(.int (8 : Int32)), (.ref a)])) rfl (hb hby d2_15) rfl (by decide) (cap := 8) (by decide) (by decide) (by decide) (by decide)
  obtain ⟨b13, g13⟩ : ∃ z, z = h7.size := ⟨_, rfl⟩
  rw [← g13] at A13 st13
  have ne_a_b13 : a ≠ b13 := Nat.ne_of_lt (Nat.lt_of_lt_of_le Fh_9.lt (Nat.le_of_eq g13.symm))
  have ne_b2_b13 : b2 ≠ b13 := Nat.ne_of_lt (Nat.lt_of_lt_of_le V_b2_12.lt (Nat.le_of_eq g13.symm))
  have gn_b13 : n0 ≤ b13 := Nat.le_trans ZS7 (Nat.le_of_eq g13.symm)
  have sz_b13 : h0.size ≤ b13 := Nat.le_trans KC7.1 (Nat.le_of_eq g13.symm)
  have Fh_14 := (Fh_9.ext E13)
  have Fn_15 := (Fn_10.ext E13)
  have Ex_16 := (Ex_11.ext E13)
  have V_b2_17 := (V_b2_12.ext E13)
  have Fw7_18 := (Fw7.ext E13)
  have ZS13 : n0 ≤ h13.size := Nat.le_trans ZS7 E13.1
  have KC13 : Keep h0 h13 [a] := KC7.ext E13
  have V_b13 : Arv Z h13 b13 ki13 .int (8 : Int32) [(.int (0 : Int32)), (.int (0 : Int32)), (.int (0 : Int32)), (.int (0 : Int32)), (.int (0 : Int32)), (.int (0 : Int32)), (.int (0 : Int32)), (.int (0 : Int32))] (.int (0 : Int32)) := (Arv.new A13 (by decide)).pad (pad_rep [] (.int (0 : Int32)) 8)
  refine OGo.step (fun uK kK => st13 uK kK) ?_
  show OGo p e below _ (T13.setTop (mkF m 17 #[.val (.ref a)] [(.ref b13), (.ref a)]))
  obtain ⟨T19, h19, X19, e19, W19, st19⟩ := putF X13 hx hZ hown (host := "") (Or.inl (hw _ (List.mem_of_getElem? (i := 18) rfl))) Via.refl e13 Fh_14 Ex_16 (Or.inl (hw _ (List.mem_of_getElem? (i := 19) rfl))) (hw _ (List.mem_of_getElem? (i := 6) rfl)) (ty := (.array .int)) (by decide) rfl rfl (g := (mkF m 17 #[.val (.ref a)] [(.ref b13), (.ref a)])) rfl rfl (hb hby d2_17)
  have Fw19 := Fh_14.same W19
  have Fn_21 := (Fn_15.other W19 (Or.inr (slot_ne (Or.inl (hw _ (List.mem_of_getElem? (i := 30) rfl))) (Or.inl (hw _ (List.mem_of_getElem? (i := 19) rfl))) (by decide) (t := .int) (t' := (.array .int)) (by decide) (by decide))))
  have Ex_22 := (Ex_16.wr W19)
  have V_b2_23 := (V_b2_17.other W19 (Ne.symm ne_a_b2))
  have Fw7_24 := (Fw7_18.other W19 (Or.inr (slot_ne (Or.inl (hw _ (List.mem_of_getElem? (i := 16) rfl))) (Or.inl (hw _ (List.mem_of_getElem? (i := 19) rfl))) (by decide) (t := (.array .long)) (t' := (.array .int)) (by decide) (by decide))))
  have V_b13_25 := (V_b13.other W19 (Ne.symm ne_a_b13))
  have ZS19 : n0 ≤ h19.size := Nat.le_trans ZS13 (Keep.of_wr W19).1
  have KC19 : Keep h0 h19 [a] := KC13.wr W19 (Or.inl (List.mem_of_getElem? (i := 0) rfl))
  have N19 := Fr.snoc X19 N7 ga
  refine OGo.step (fun uK kK => st19 uK kK) ?_
  show OGo p e below _ (T19.setTop (mkF m 20 #[.val (.ref a)] []))
  exact OGo.retV X19 hx Bd.notSynchronized Bd.returns (hb hby d2_20) (by decide) (by decide) (by show Qi Z a h0 n0 _ T19.heap _; rw [e19]; exact ⟨rfl, N19, KC19, b2, _, b13, _, gn_b2, gn_b13, sz_b2, sz_b13, ne_b2_b13, Fw7_24, Fw19, Fn_21, V_b2_23, V_b13_25⟩)
theorem d7_0 : decode jdk_65_method_30_code 0 = .ok (.iload_n 1, 1) := by decide +kernel
theorem d7_1 : decode jdk_65_method_30_code 1 = .ok (.iload_n 2, 1) := by decide +kernel
theorem d7_2 : decode jdk_65_method_30_code 2 = .ok (.if_icmp .le 44, 3) := by decide +kernel
theorem d7_46 : decode jdk_65_method_30_code 46 = .ok (.iload_n 1, 1) := by decide +kernel
theorem d7_47 : decode jdk_65_method_30_code 47 = .ok (.ifCond .ge 12, 3) := by decide +kernel
theorem d7_59 : decode jdk_65_method_30_code 59 = .ok (.iload_n 2, 1) := by decide +kernel
theorem d7_60 : decode jdk_65_method_30_code 60 = .ok (.iload_n 0, 1) := by decide +kernel
theorem d7_61 : decode jdk_65_method_30_code 61 = .ok (.if_icmp .le 12, 3) := by decide +kernel
theorem d7_73 : decode jdk_65_method_30_code 73 = .ok (.return_, 1) := by decide +kernel
theorem pnrc : plainName "java/util/Arrays" = true := by first | (simp [plainName, overriddenIn]; done) | decide +kernel
theorem efrc (m : MethodId) (x0 : Int32) (x1 : Int32) (x2 : Int32) : entryFrame m #[(.int x0), (.int x1), (.int x2)] 3 = mkF m 0 #[.val (.int x0), .val (.int x1), .val (.int x2)] [] := by first | (simp [entryFrame, mkF, argsToLocals, Value.category]; done) | rfl
def Qrc (Z : State) (p1 : Int32) (p2 : Int32) (p3 : Int32) (h0 : Heap) (n0 : Nat) (v : Option Value) (h : Heap) (L : List Loc) : Prop := v = none ∧ Fr n0 L ∧ h = h0
set_option maxRecDepth 65536 in
set_option maxHeartbeats 40000000 in
theorem rmrc (l : Launch) (Z : State) (a0 : Array Value) (hw : ∀ d ∈ tables_1, d.before a0 Z = true) (ws : List Jvm.Cond) (p1 : Int32) (p2 : Int32) (p3 : Int32) (h0 : Heap) (n0 : Nat) (Z0 : n0 ≤ h0.size) (h2 : ¬ (p3 < p2)) (h47 : ¬ (p2 < (0 : Int32))) (h61 : ¬ (p1 < p3)) :
    MetFree l (⟨"java/util/Arrays", "rangeCheck", "(III)V"⟩ : MethodName) (head1 (Jvm.Cond.code (⟨"java/util/Arrays", "rangeCheck", "(III)V"⟩ : MethodName) jdk_65_method_30_code 3 none :: ws) ({ frames := 0, cells := 0, slots := 0, locals := 0 } : Room)) (fun aQ UQ => aQ = #[(.int p1), (.int p2), (.int p3)] ∧ Z.Warmed39 UQ.vm ∧ UQ.heap = h0) (fun _ _ _ _ _ => True) (fun _ U o U' => ∃ v L, o = .returned v ∧ Qrc Z p1 p2 p3 h0 n0 v U'.heap L ∧ FrameEnd U o U' L ({ frames := 0, cells := 0, slots := 0, locals := 0 } : Room).cells ({ frames := 0, cells := 0, slots := 0, locals := 0 } : Room).slots) := by
  refine MetFree.of_bodySF (plainFor_of_name pnrc) hisR ?_
  intro p e s m args below meth c s₁ Bd hml0 hP hK
  obtain ⟨rfl, hZ, hh⟩ := hP
  have hx := Bd.exec
  have hby := Bd.bytes
  have hml : c.maxLocals = 3 := hml0
  have hown : s.vm.findClass "java/util/Arrays" = some m.cls := findClass_of_methodNamed Bd.named
  have hnm := (name_of_methodNamed Bd.named Bd.method).1
  have X0 : Stand p l e ({ frames := 0, cells := 0, slots := 0, locals := 0 } : Room) s m #[(.int p1), (.int p2), (.int p3)] below meth c s₁ [] 0 0 := Stand.of_body Bd
  have e0 : s₁.heap = h0 := by rw [← hh, Bd.state]; rfl
  have N0 := Fr.nil n0
  show OGo p e below (OPost s (Qrc Z p1 p2 p3 h0 n0) ({ frames := 0, cells := 0, slots := 0, locals := 0 } : Room).cells ({ frames := 0, cells := 0, slots := 0, locals := 0 } : Room).slots) (s₁.setTop (entryFrame m #[(.int p1), (.int p2), (.int p3)] 3))
  refine OGo.step (fun uK kK => castTop (efrc m p1 p2 p3) kK) ?_
  show OGo p e below _ (s₁.setTop (mkF m 0 #[.val (.int p1), .val (.int p2), .val (.int p3)] []))
  refine OGo.step (fun uK kK => XS.iloadN X0.here hx rfl (hb hby d7_0) rfl kK) ?_
  show OGo p e below _ (s₁.setTop (mkF m 1 #[.val (.int p1), .val (.int p2), .val (.int p3)] [(.int p2)]))
  refine OGo.step (fun uK kK => XS.iloadN X0.here hx rfl (hb hby d7_1) rfl kK) ?_
  show OGo p e below _ (s₁.setTop (mkF m 2 #[.val (.int p1), .val (.int p2), .val (.int p3)] [(.int p3), (.int p2)]))
  refine OGo.step (fun uK kK => XS.icmpYes X0.here hx rfl (pc0 := 2) (pc' := 46) rfl (hb hby d7_2) rfl (flt h2).2.2.2 (by decide) (by decide) kK) ?_
  show OGo p e below _ (s₁.setTop (mkF m 46 #[.val (.int p1), .val (.int p2), .val (.int p3)] []))
  refine OGo.step (fun uK kK => XS.iloadN X0.here hx rfl (hb hby d7_46) rfl kK) ?_
  show OGo p e below _ (s₁.setTop (mkF m 47 #[.val (.int p1), .val (.int p2), .val (.int p3)] [(.int p2)]))
  refine OGo.step (fun uK kK => XS.ifYes X0.here hx rfl (pc0 := 47) (pc' := 59) rfl (hb hby d7_47) rfl ((if0 _ _).trans (flt h47).2.1) (by decide) (by decide) kK) ?_
  show OGo p e below _ (s₁.setTop (mkF m 59 #[.val (.int p1), .val (.int p2), .val (.int p3)] []))
  refine OGo.step (fun uK kK => XS.iloadN X0.here hx rfl (hb hby d7_59) rfl kK) ?_
  show OGo p e below _ (s₁.setTop (mkF m 60 #[.val (.int p1), .val (.int p2), .val (.int p3)] [(.int p3)]))
  refine OGo.step (fun uK kK => XS.iloadN X0.here hx rfl (hb hby d7_60) rfl kK) ?_
  show OGo p e below _ (s₁.setTop (mkF m 61 #[.val (.int p1), .val (.int p2), .val (.int p3)] [(.int p1), (.int p3)]))
  refine OGo.step (fun uK kK => XS.icmpYes X0.here hx rfl (pc0 := 61) (pc' := 73) rfl (hb hby d7_61) rfl (flt h61).2.2.2 (by decide) (by decide) kK) ?_
  show OGo p e below _ (s₁.setTop (mkF m 73 #[.val (.int p1), .val (.int p2), .val (.int p3)] []))
  exact OGo.retV X0 hx Bd.notSynchronized Bd.returns (hb hby d7_73) (by decide) (by decide) (by show Qrc Z p1 p2 p3 h0 n0 _ s₁.heap _; rw [e0]; exact ⟨rfl, N0, rfl⟩)
theorem d8_0 : decode jdk_65_method_56_code 0 = .ok (.iload_n 1, 1) := by decide +kernel
theorem d8_1 : decode jdk_65_method_56_code 1 = .ok (.istore 5, 2) := by decide +kernel
theorem d8_3 : decode jdk_65_method_56_code 3 = .ok (.iload_n 2, 1) := by decide +kernel
theorem d8_4 : decode jdk_65_method_56_code 4 = .ok (.iconst 1, 1) := by decide +kernel
theorem d8_5 : decode jdk_65_method_56_code 5 = .ok (.isub, 1) := by decide +kernel
theorem d8_6 : decode jdk_65_method_56_code 6 = .ok (.istore 6, 2) := by decide +kernel
theorem d8_8 : decode jdk_65_method_56_code 8 = .ok (.iload 5, 2) := by decide +kernel
theorem d8_10 : decode jdk_65_method_56_code 10 = .ok (.iload 6, 2) := by decide +kernel
theorem d8_12 : decode jdk_65_method_56_code 12 = .ok (.if_icmp .gt 56, 3) := by decide +kernel
theorem d8_68 : decode jdk_65_method_56_code 68 = .ok (.iload 5, 2) := by decide +kernel
theorem d8_70 : decode jdk_65_method_56_code 70 = .ok (.iconst 1, 1) := by decide +kernel
theorem d8_71 : decode jdk_65_method_56_code 71 = .ok (.iadd, 1) := by decide +kernel
theorem d8_72 : decode jdk_65_method_56_code 72 = .ok (.ineg, 1) := by decide +kernel
theorem d8_73 : decode jdk_65_method_56_code 73 = .ok (.ireturn, 1) := by decide +kernel
theorem pnz_e : plainName "java/util/Arrays" = true := by first | (simp [plainName, overriddenIn]; done) | decide +kernel
theorem efz_e (m : MethodId) (x0 : Addr) (x1 : Int32) (x2 : Int32) (x3 : Int64) : entryFrame m #[(.ref x0), (.int x1), (.int x2), (.long x3)] 10 = mkF m 0 #[.val (.ref x0), .val (.int x1), .val (.int x2), .val (.long x3), .second, .unset, .unset, .unset, .unset, .unset] [] := by first | (simp [entryFrame, mkF, argsToLocals, Value.category]; done) | rfl
def Qz_e (Z : State) (aS : Addr) (kS : ClassId) (s0_ : Int64) (s1_ : Int64) (s2_ : Int64) (s3_ : Int64) (s4_ : Int64) (s5_ : Int64) (s6_ : Int64) (s7_ : Int64) (q9 : Int64) (h0 : Heap) (n0 : Nat) (v : Option Value) (h : Heap) (L : List Loc) : Prop := v = some (.int (-1 : Int32)) ∧ Fr n0 L ∧ h = h0
set_option maxRecDepth 65536 in
set_option maxHeartbeats 40000000 in
theorem rmz_e (l : Launch) (Z : State) (a0 : Array Value) (hw : ∀ d ∈ tables_1, d.before a0 Z = true) (ws : List Jvm.Cond) (aS : Addr) (kS : ClassId) (s0_ : Int64) (s1_ : Int64) (s2_ : Int64) (s3_ : Int64) (s4_ : Int64) (s5_ : Int64) (s6_ : Int64) (s7_ : Int64) (q9 : Int64) (h0 : Heap) (n0 : Nat) (Z0 : n0 ≤ h0.size) (Vs : Arv Z h0 aS kS .long (8 : Int32) [(.long s0_), (.long s1_), (.long s2_), (.long s3_), (.long s4_), (.long s5_), (.long s6_), (.long s7_)] (.long (0 : Int64))) :
    MetFree l (⟨"java/util/Arrays", "binarySearch0", "([JIIJ)I"⟩ : MethodName) (head1 (Jvm.Cond.code (⟨"java/util/Arrays", "binarySearch0", "([JIIJ)I"⟩ : MethodName) jdk_65_method_56_code 10 (some .int) :: ws) ({ frames := 0, cells := 0, slots := 0, locals := 0 } : Room)) (fun aQ UQ => aQ = #[(.ref aS), (.int (0 : Int32)), (.int (0 : Int32)), (.long q9)] ∧ Z.Warmed39 UQ.vm ∧ UQ.heap = h0) (fun _ _ _ _ _ => True) (fun _ U o U' => ∃ v L, o = .returned v ∧ Qz_e Z aS kS s0_ s1_ s2_ s3_ s4_ s5_ s6_ s7_ q9 h0 n0 v U'.heap L ∧ FrameEnd U o U' L ({ frames := 0, cells := 0, slots := 0, locals := 0 } : Room).cells ({ frames := 0, cells := 0, slots := 0, locals := 0 } : Room).slots) := by
  refine MetFree.of_bodySF (plainFor_of_name pnz_e) hisR ?_
  intro p e s m args below meth c s₁ Bd hml0 hP hK
  obtain ⟨rfl, hZ, hh⟩ := hP
  have hx := Bd.exec
  have hby := Bd.bytes
  have hml : c.maxLocals = 10 := hml0
  have hown : s.vm.findClass "java/util/Arrays" = some m.cls := findClass_of_methodNamed Bd.named
  have hnm := (name_of_methodNamed Bd.named Bd.method).1
  have X0 : Stand p l e ({ frames := 0, cells := 0, slots := 0, locals := 0 } : Room) s m #[(.ref aS), (.int (0 : Int32)), (.int (0 : Int32)), (.long q9)] below meth c s₁ [] 0 0 := Stand.of_body Bd
  have e0 : s₁.heap = h0 := by rw [← hh, Bd.state]; rfl
  have N0 := Fr.nil n0
  show OGo p e below (OPost s (Qz_e Z aS kS s0_ s1_ s2_ s3_ s4_ s5_ s6_ s7_ q9 h0 n0) ({ frames := 0, cells := 0, slots := 0, locals := 0 } : Room).cells ({ frames := 0, cells := 0, slots := 0, locals := 0 } : Room).slots) (s₁.setTop (entryFrame m #[(.ref aS), (.int (0 : Int32)), (.int (0 : Int32)), (.long q9)] 10))
  refine OGo.step (fun uK kK => castTop (efz_e m aS (0 : Int32) (0 : Int32) q9) kK) ?_
  show OGo p e below _ (s₁.setTop (mkF m 0 #[.val (.ref aS), .val (.int (0 : Int32)), .val (.int (0 : Int32)), .val (.long q9), .second, .unset, .unset, .unset, .unset, .unset] []))
  refine OGo.step (fun uK kK => XS.iloadN X0.here hx rfl (hb hby d8_0) rfl kK) ?_
  show OGo p e below _ (s₁.setTop (mkF m 1 #[.val (.ref aS), .val (.int (0 : Int32)), .val (.int (0 : Int32)), .val (.long q9), .second, .unset, .unset, .unset, .unset, .unset] [(.int (0 : Int32))]))
  refine OGo.step (fun uK kK => XS.istore X0.here hx rfl (hb hby d8_1) rfl (l' := #[.val (.ref aS), .val (.int (0 : Int32)), .val (.int (0 : Int32)), .val (.long q9), .second, .val (.int (0 : Int32)), .unset, .unset, .unset, .unset]) rfl kK) ?_
  show OGo p e below _ (s₁.setTop (mkF m 3 #[.val (.ref aS), .val (.int (0 : Int32)), .val (.int (0 : Int32)), .val (.long q9), .second, .val (.int (0 : Int32)), .unset, .unset, .unset, .unset] []))
  refine OGo.step (fun uK kK => XS.iloadN X0.here hx rfl (hb hby d8_3) rfl kK) ?_
  show OGo p e below _ (s₁.setTop (mkF m 4 #[.val (.ref aS), .val (.int (0 : Int32)), .val (.int (0 : Int32)), .val (.long q9), .second, .val (.int (0 : Int32)), .unset, .unset, .unset, .unset] [(.int (0 : Int32))]))
  refine OGo.step (fun uK kK => XS.iconst X0.here hx rfl (hb hby d8_4) kK) ?_
  show OGo p e below _ (s₁.setTop (mkF m 5 #[.val (.ref aS), .val (.int (0 : Int32)), .val (.int (0 : Int32)), .val (.long q9), .second, .val (.int (0 : Int32)), .unset, .unset, .unset, .unset] [(.int (1 : Int32)), (.int (0 : Int32))]))
  refine OGo.step (fun uK kK => XS.isub X0.here hx rfl (hb hby d8_5) rfl kK) ?_
  show OGo p e below _ (s₁.setTop (mkF m 6 #[.val (.ref aS), .val (.int (0 : Int32)), .val (.int (0 : Int32)), .val (.long q9), .second, .val (.int (0 : Int32)), .unset, .unset, .unset, .unset] [(.int ((0 : Int32) - (1 : Int32)))]))
  have ez1 : ((0 : Int32) - (1 : Int32)) = (-1 : Int32) := by decide
  rw [ez1]
  show OGo p e below _ (s₁.setTop (mkF m 6 #[.val (.ref aS), .val (.int (0 : Int32)), .val (.int (0 : Int32)), .val (.long q9), .second, .val (.int (0 : Int32)), .unset, .unset, .unset, .unset] [(.int (-1 : Int32))]))
  refine OGo.step (fun uK kK => XS.istore X0.here hx rfl (hb hby d8_6) rfl (l' := #[.val (.ref aS), .val (.int (0 : Int32)), .val (.int (0 : Int32)), .val (.long q9), .second, .val (.int (0 : Int32)), .val (.int (-1 : Int32)), .unset, .unset, .unset]) rfl kK) ?_
  show OGo p e below _ (s₁.setTop (mkF m 8 #[.val (.ref aS), .val (.int (0 : Int32)), .val (.int (0 : Int32)), .val (.long q9), .second, .val (.int (0 : Int32)), .val (.int (-1 : Int32)), .unset, .unset, .unset] []))
  refine OGo.step (fun uK kK => XS.iload X0.here hx rfl (hb hby d8_8) rfl kK) ?_
  show OGo p e below _ (s₁.setTop (mkF m 10 #[.val (.ref aS), .val (.int (0 : Int32)), .val (.int (0 : Int32)), .val (.long q9), .second, .val (.int (0 : Int32)), .val (.int (-1 : Int32)), .unset, .unset, .unset] [(.int (0 : Int32))]))
  refine OGo.step (fun uK kK => XS.iload X0.here hx rfl (hb hby d8_10) rfl kK) ?_
  show OGo p e below _ (s₁.setTop (mkF m 12 #[.val (.ref aS), .val (.int (0 : Int32)), .val (.int (0 : Int32)), .val (.long q9), .second, .val (.int (0 : Int32)), .val (.int (-1 : Int32)), .unset, .unset, .unset] [(.int (-1 : Int32)), (.int (0 : Int32))]))
  have hc12 : (-1 : Int32) < (0 : Int32) := by decide
  refine OGo.step (fun uK kK => XS.icmpYes X0.here hx rfl (pc0 := 12) (pc' := 68) rfl (hb hby d8_12) rfl (tlt hc12).2.2.1 (by decide) (by decide) kK) ?_
  show OGo p e below _ (s₁.setTop (mkF m 68 #[.val (.ref aS), .val (.int (0 : Int32)), .val (.int (0 : Int32)), .val (.long q9), .second, .val (.int (0 : Int32)), .val (.int (-1 : Int32)), .unset, .unset, .unset] []))
  refine OGo.step (fun uK kK => XS.iload X0.here hx rfl (hb hby d8_68) rfl kK) ?_
  show OGo p e below _ (s₁.setTop (mkF m 70 #[.val (.ref aS), .val (.int (0 : Int32)), .val (.int (0 : Int32)), .val (.long q9), .second, .val (.int (0 : Int32)), .val (.int (-1 : Int32)), .unset, .unset, .unset] [(.int (0 : Int32))]))
  refine OGo.step (fun uK kK => XS.iconst X0.here hx rfl (hb hby d8_70) kK) ?_
  show OGo p e below _ (s₁.setTop (mkF m 71 #[.val (.ref aS), .val (.int (0 : Int32)), .val (.int (0 : Int32)), .val (.long q9), .second, .val (.int (0 : Int32)), .val (.int (-1 : Int32)), .unset, .unset, .unset] [(.int (1 : Int32)), (.int (0 : Int32))]))
  refine OGo.step (fun uK kK => XS.iadd X0.here hx rfl (hb hby d8_71) rfl kK) ?_
  show OGo p e below _ (s₁.setTop (mkF m 72 #[.val (.ref aS), .val (.int (0 : Int32)), .val (.int (0 : Int32)), .val (.long q9), .second, .val (.int (0 : Int32)), .val (.int (-1 : Int32)), .unset, .unset, .unset] [(.int ((0 : Int32) + (1 : Int32)))]))
  have ez2 : ((0 : Int32) + (1 : Int32)) = (1 : Int32) := by decide
  rw [ez2]
  show OGo p e below _ (s₁.setTop (mkF m 72 #[.val (.ref aS), .val (.int (0 : Int32)), .val (.int (0 : Int32)), .val (.long q9), .second, .val (.int (0 : Int32)), .val (.int (-1 : Int32)), .unset, .unset, .unset] [(.int (1 : Int32))]))
  refine OGo.step (fun uK kK => XS.ineg X0.here hx rfl (hb hby d8_72) rfl kK) ?_
  show OGo p e below _ (s₁.setTop (mkF m 73 #[.val (.ref aS), .val (.int (0 : Int32)), .val (.int (0 : Int32)), .val (.long q9), .second, .val (.int (0 : Int32)), .val (.int (-1 : Int32)), .unset, .unset, .unset] [(.int (-(1 : Int32)))]))
  have ez3 : (-(1 : Int32)) = (-1 : Int32) := by decide
  rw [ez3]
  show OGo p e below _ (s₁.setTop (mkF m 73 #[.val (.ref aS), .val (.int (0 : Int32)), .val (.int (0 : Int32)), .val (.long q9), .second, .val (.int (0 : Int32)), .val (.int (-1 : Int32)), .unset, .unset, .unset] [(.int (-1 : Int32))]))
  exact OGo.retI X0 hx Bd.notSynchronized Bd.returns (hb hby d8_73) (by decide) (by decide) (by show Qz_e Z aS kS s0_ s1_ s2_ s3_ s4_ s5_ s6_ s7_ q9 h0 n0 _ s₁.heap _; rw [e0]; exact ⟨rfl, N0, rfl⟩)
theorem d6_0 : decode jdk_65_method_55_code 0 = .ok (.aload_n 0, 1) := by decide +kernel
theorem d6_1 : decode jdk_65_method_55_code 1 = .ok (.arraylength, 1) := by decide +kernel
theorem d6_2 : decode jdk_65_method_55_code 2 = .ok (.iload_n 1, 1) := by decide +kernel
theorem d6_3 : decode jdk_65_method_55_code 3 = .ok (.iload_n 2, 1) := by decide +kernel
theorem d6_4 : decode jdk_65_method_55_code 4 = .ok (.invokestatic 13, 3) := by decide +kernel
theorem d6_7 : decode jdk_65_method_55_code 7 = .ok (.aload_n 0, 1) := by decide +kernel
theorem d6_8 : decode jdk_65_method_55_code 8 = .ok (.iload_n 1, 1) := by decide +kernel
theorem d6_9 : decode jdk_65_method_55_code 9 = .ok (.iload_n 2, 1) := by decide +kernel
theorem d6_10 : decode jdk_65_method_55_code 10 = .ok (.lload_n 3, 1) := by decide +kernel
theorem d6_11 : decode jdk_65_method_55_code 11 = .ok (.invokestatic 205, 3) := by decide +kernel
theorem d6_14 : decode jdk_65_method_55_code 14 = .ok (.ireturn, 1) := by decide +kernel
theorem pny_e : plainName "java/util/Arrays" = true := by first | (simp [plainName, overriddenIn]; done) | decide +kernel
theorem pdy_e_0 : parseMethodDescriptor "(III)V" = some ⟨[.int, .int, .int], none⟩ := by decide +kernel
theorem pdy_e_1 : parseMethodDescriptor "([JIIJ)I" = some ⟨[(.array .long), .int, .int, .long], some .int⟩ := by decide +kernel
theorem efy_e (m : MethodId) (x0 : Addr) (x1 : Int32) (x2 : Int32) (x3 : Int64) : entryFrame m #[(.ref x0), (.int x1), (.int x2), (.long x3)] 5 = mkF m 0 #[.val (.ref x0), .val (.int x1), .val (.int x2), .val (.long x3), .second] [] := by first | (simp [entryFrame, mkF, argsToLocals, Value.category]; done) | rfl
def Qy_e (Z : State) (aS : Addr) (kS : ClassId) (s0_ : Int64) (s1_ : Int64) (s2_ : Int64) (s3_ : Int64) (s4_ : Int64) (s5_ : Int64) (s6_ : Int64) (s7_ : Int64) (q9 : Int64) (h0 : Heap) (n0 : Nat) (v : Option Value) (h : Heap) (L : List Loc) : Prop := v = some (.int (-1 : Int32)) ∧ Fr n0 L ∧ h = h0
set_option maxRecDepth 65536 in
set_option maxHeartbeats 40000000 in
theorem rmy_e (l : Launch) (Z : State) (a0 : Array Value) (hw : ∀ d ∈ tables_1, d.before a0 Z = true) (ws : List Jvm.Cond) (aS : Addr) (kS : ClassId) (s0_ : Int64) (s1_ : Int64) (s2_ : Int64) (s3_ : Int64) (s4_ : Int64) (s5_ : Int64) (s6_ : Int64) (s7_ : Int64) (q9 : Int64) (h0 : Heap) (n0 : Nat) (Z0 : n0 ≤ h0.size) (Vs : Arv Z h0 aS kS .long (8 : Int32) [(.long s0_), (.long s1_), (.long s2_), (.long s3_), (.long s4_), (.long s5_), (.long s6_), (.long s7_)] (.long (0 : Int64))) :
    MetFree l (⟨"java/util/Arrays", "binarySearch", "([JIIJ)I"⟩ : MethodName) (head1 (Jvm.Cond.code (⟨"java/util/Arrays", "binarySearch", "([JIIJ)I"⟩ : MethodName) jdk_65_method_55_code 5 (some .int) :: ws) ({ frames := 1, cells := 0, slots := 0, locals := 21 } : Room)) (fun aQ UQ => aQ = #[(.ref aS), (.int (0 : Int32)), (.int (0 : Int32)), (.long q9)] ∧ Z.Warmed39 UQ.vm ∧ UQ.heap = h0) (fun _ _ _ _ _ => True) (fun _ U o U' => ∃ v L, o = .returned v ∧ Qy_e Z aS kS s0_ s1_ s2_ s3_ s4_ s5_ s6_ s7_ q9 h0 n0 v U'.heap L ∧ FrameEnd U o U' L ({ frames := 1, cells := 0, slots := 0, locals := 21 } : Room).cells ({ frames := 1, cells := 0, slots := 0, locals := 21 } : Room).slots) := by
  refine MetFree.of_bodySF (plainFor_of_name pny_e) hisR ?_
  intro p e s m args below meth c s₁ Bd hml0 hP hK
  obtain ⟨rfl, hZ, hh⟩ := hP
  have hx := Bd.exec
  have hby := Bd.bytes
  have hml : c.maxLocals = 5 := hml0
  have hown : s.vm.findClass "java/util/Arrays" = some m.cls := findClass_of_methodNamed Bd.named
  have hnm := (name_of_methodNamed Bd.named Bd.method).1
  have X0 : Stand p l e ({ frames := 1, cells := 0, slots := 0, locals := 21 } : Room) s m #[(.ref aS), (.int (0 : Int32)), (.int (0 : Int32)), (.long q9)] below meth c s₁ [] 0 0 := Stand.of_body Bd
  have e0 : s₁.heap = h0 := by rw [← hh, Bd.state]; rfl
  have N0 := Fr.nil n0
  show OGo p e below (OPost s (Qy_e Z aS kS s0_ s1_ s2_ s3_ s4_ s5_ s6_ s7_ q9 h0 n0) ({ frames := 1, cells := 0, slots := 0, locals := 21 } : Room).cells ({ frames := 1, cells := 0, slots := 0, locals := 21 } : Room).slots) (s₁.setTop (entryFrame m #[(.ref aS), (.int (0 : Int32)), (.int (0 : Int32)), (.long q9)] 5))
  refine OGo.step (fun uK kK => castTop (efy_e m aS (0 : Int32) (0 : Int32) q9) kK) ?_
  show OGo p e below _ (s₁.setTop (mkF m 0 #[.val (.ref aS), .val (.int (0 : Int32)), .val (.int (0 : Int32)), .val (.long q9), .second] []))
  refine OGo.step (fun uK kK => XS.aloadN X0.here hx rfl (hb hby d6_0) rfl rfl kK) ?_
  show OGo p e below _ (s₁.setTop (mkF m 1 #[.val (.ref aS), .val (.int (0 : Int32)), .val (.int (0 : Int32)), .val (.long q9), .second] [(.ref aS)]))
  obtain ⟨cl1, Ar1, -, S1, M1, -, -⟩ := id Vs
  refine OGo.step (fun uK kK => X0.arraylength hx (by rw [e0]; exact Ar1.1) (State.isArrayOf_alike hZ.alike Ar1.2.1) (g := (mkF m 1 #[.val (.ref aS), .val (.int (0 : Int32)), .val (.int (0 : Int32)), .val (.long q9), .second] [(.ref aS)])) rfl rfl (hb hby d6_1) uK kK) ?_
  rw [len_of S1 M1]
  show OGo p e below _ (s₁.setTop (mkF m 2 #[.val (.ref aS), .val (.int (0 : Int32)), .val (.int (0 : Int32)), .val (.long q9), .second] [(.int (8 : Int32))]))
  refine OGo.step (fun uK kK => XS.iloadN X0.here hx rfl (hb hby d6_2) rfl kK) ?_
  show OGo p e below _ (s₁.setTop (mkF m 3 #[.val (.ref aS), .val (.int (0 : Int32)), .val (.int (0 : Int32)), .val (.long q9), .second] [(.int (0 : Int32)), (.int (8 : Int32))]))
  refine OGo.step (fun uK kK => XS.iloadN X0.here hx rfl (hb hby d6_3) rfl kK) ?_
  show OGo p e below _ (s₁.setTop (mkF m 4 #[.val (.ref aS), .val (.int (0 : Int32)), .val (.int (0 : Int32)), .val (.long q9), .second] [(.int (0 : Int32)), (.int (0 : Int32)), (.int (8 : Int32))]))
  obtain ⟨_, _, ⟨T2, Lq2, kq_2, nq_2⟩, -, X2, ⟨Lc2, hQ2, lq2, yq2, zq2⟩, st2⟩ := Jvm.LawKit.callS X0 hx (y := (⟨"java/util/Arrays", "rangeCheck", "(III)V"⟩ : MethodName)) hown (mvT hZ (hw _ (List.mem_of_getElem? (i := 35) rfl))) (mvT hZ (hw _ (List.mem_of_getElem? (i := 36) rfl))) (mvT hZ (hw _ (List.mem_of_getElem? (i := 33) rfl))) (mvT hZ (hw _ (List.mem_of_getElem? (i := 37) rfl))) (by decide) (backOf (W := 0) (rmrc l Z a0 hw [] (8 : Int32) (0 : Int32) (0 : Int32)  h0 n0 Z0 (by decide) (by decide) (by decide)) hZ (hw _ (List.mem_of_getElem? (i := 37) rfl)) (hw _ (List.mem_of_getElem? (i := 33) rfl)) (by decide) (by decide)) (g := (mkF m 4 #[.val (.ref aS), .val (.int (0 : Int32)), .val (.int (0 : Int32)), .val (.long q9), .second] [(.int (0 : Int32)), (.int (0 : Int32)), (.int (8 : Int32))])) rfl (by rw [hml]; rfl) (argsL := [(.int (8 : Int32)), (.int (0 : Int32)), (.int (0 : Int32))]) (rest := []) (lenOf pdy_e_0 rfl) rfl (by show 2 * 0 + _ ≤ _; exact Nat.le_of_eq rfl) (hb hby d6_4) (fun _ _ => ⟨rfl, e0, (by decide : 0 + 0 ≤ _), (by decide : 0 + 0 ≤ _)⟩)
  dsimp only [Pt.U, Pt.locs, Pt.cells, Pt.slots] at X2 lq2 yq2 zq2 st2 hQ2
  subst lq2 yq2 zq2
  obtain ⟨rfl, Nq2, e2⟩ := hQ2
  have N2 := Fr.app N0 Nq2
  refine OGo.step (fun uK kK => st2 uK kK) ?_
  show OGo p e below _ (T2.setTop (mkF m 7 #[.val (.ref aS), .val (.int (0 : Int32)), .val (.int (0 : Int32)), .val (.long q9), .second] []))
  refine OGo.step (fun uK kK => XS.aloadN X2.here hx rfl (hb hby d6_7) rfl rfl kK) ?_
  show OGo p e below _ (T2.setTop (mkF m 8 #[.val (.ref aS), .val (.int (0 : Int32)), .val (.int (0 : Int32)), .val (.long q9), .second] [(.ref aS)]))
  refine OGo.step (fun uK kK => XS.iloadN X2.here hx rfl (hb hby d6_8) rfl kK) ?_
  show OGo p e below _ (T2.setTop (mkF m 9 #[.val (.ref aS), .val (.int (0 : Int32)), .val (.int (0 : Int32)), .val (.long q9), .second] [(.int (0 : Int32)), (.ref aS)]))
  refine OGo.step (fun uK kK => XS.iloadN X2.here hx rfl (hb hby d6_9) rfl kK) ?_
  show OGo p e below _ (T2.setTop (mkF m 10 #[.val (.ref aS), .val (.int (0 : Int32)), .val (.int (0 : Int32)), .val (.long q9), .second] [(.int (0 : Int32)), (.int (0 : Int32)), (.ref aS)]))
  refine OGo.step (fun uK kK => XS.lloadN X2.here hx rfl (hb hby d6_10) rfl kK) ?_
  show OGo p e below _ (T2.setTop (mkF m 11 #[.val (.ref aS), .val (.int (0 : Int32)), .val (.int (0 : Int32)), .val (.long q9), .second] [(.long q9), (.int (0 : Int32)), (.int (0 : Int32)), (.ref aS)]))
  obtain ⟨_, _, ⟨T3, Lq3, kq_3, nq_3⟩, -, X3, ⟨Lc3, hQ3, lq3, yq3, zq3⟩, st3⟩ := Jvm.LawKit.callS X2 hx (y := (⟨"java/util/Arrays", "binarySearch0", "([JIIJ)I"⟩ : MethodName)) hown (mvT hZ (hw _ (List.mem_of_getElem? (i := 38) rfl))) (mvT hZ (hw _ (List.mem_of_getElem? (i := 39) rfl))) (mvT hZ (hw _ (List.mem_of_getElem? (i := 33) rfl))) (mvT hZ (hw _ (List.mem_of_getElem? (i := 40) rfl))) (by decide) (backOf (W := 0) (rmz_e l Z a0 hw [] aS kS s0_ s1_ s2_ s3_ s4_ s5_ s6_ s7_ q9 h0 n0 Z0 Vs) hZ (hw _ (List.mem_of_getElem? (i := 40) rfl)) (hw _ (List.mem_of_getElem? (i := 33) rfl)) (by decide) (by decide)) (g := (mkF m 11 #[.val (.ref aS), .val (.int (0 : Int32)), .val (.int (0 : Int32)), .val (.long q9), .second] [(.long q9), (.int (0 : Int32)), (.int (0 : Int32)), (.ref aS)])) rfl (by rw [hml]; rfl) (argsL := [(.ref aS), (.int (0 : Int32)), (.int (0 : Int32)), (.long q9)]) (rest := []) (lenOf pdy_e_1 rfl) rfl (by show 2 * 0 + _ ≤ _; exact Nat.le_of_eq rfl) (hb hby d6_11) (fun _ _ => ⟨rfl, e2, (by decide : 0 + 0 ≤ _), (by decide : 0 + 0 ≤ _)⟩)
  dsimp only [Pt.U, Pt.locs, Pt.cells, Pt.slots] at X3 lq3 yq3 zq3 st3 hQ3
  subst lq3 yq3 zq3
  obtain ⟨rfl, Nq3, e3⟩ := hQ3
  have N3 := Fr.app N2 Nq3
  refine OGo.step (fun uK kK => st3 uK kK) ?_
  show OGo p e below _ (T3.setTop (mkF m 14 #[.val (.ref aS), .val (.int (0 : Int32)), .val (.int (0 : Int32)), .val (.long q9), .second] [(.int (-1 : Int32))]))
  exact OGo.retI X3 hx Bd.notSynchronized Bd.returns (hb hby d6_14) (by decide) (by decide) (by show Qy_e Z aS kS s0_ s1_ s2_ s3_ s4_ s5_ s6_ s7_ q9 h0 n0 _ T3.heap _; rw [e3]; exact ⟨rfl, N3, rfl⟩)
theorem d5_0 : decode prog_55_method_6_code 0 = .ok (.aload_n 0, 1) := by decide +kernel
theorem d5_1 : decode prog_55_method_6_code 1 = .ok (.getfield 7, 3) := by decide +kernel
theorem d5_4 : decode prog_55_method_6_code 4 = .ok (.iconst 0, 1) := by decide +kernel
theorem d5_5 : decode prog_55_method_6_code 5 = .ok (.aload_n 0, 1) := by decide +kernel
theorem d5_6 : decode prog_55_method_6_code 6 = .ok (.getfield 21, 3) := by decide +kernel
theorem d5_9 : decode prog_55_method_6_code 9 = .ok (.lload_n 1, 1) := by decide +kernel
theorem d5_10 : decode prog_55_method_6_code 10 = .ok (.invokestatic 42, 3) := by decide +kernel
theorem d5_13 : decode prog_55_method_6_code 13 = .ok (.ireturn, 1) := by decide +kernel
theorem pnx_e : plainName "com/example/graph_of_conflicts/graphofconflicts/engine/OpenSnapshots" = true := by first | (simp [plainName, overriddenIn]; done) | decide +kernel
theorem pdx_e_0 : parseMethodDescriptor "([JIIJ)I" = some ⟨[(.array .long), .int, .int, .long], some .int⟩ := by decide +kernel
theorem efx_e (m : MethodId) (x0 : Addr) (x1 : Int64) : entryFrame m #[(.ref x0), (.long x1)] 3 = mkF m 0 #[.val (.ref x0), .val (.long x1), .second] [] := by first | (simp [entryFrame, mkF, argsToLocals, Value.category]; done) | rfl
def Qx_e (Z : State) (a : Addr) (aS : Addr) (kS : ClassId) (s0_ : Int64) (s1_ : Int64) (s2_ : Int64) (s3_ : Int64) (s4_ : Int64) (s5_ : Int64) (s6_ : Int64) (s7_ : Int64) (q9 : Int64) (h0 : Heap) (n0 : Nat) (v : Option Value) (h : Heap) (L : List Loc) : Prop := v = some (.int (-1 : Int32)) ∧ Fr n0 L ∧ h = h0
set_option maxRecDepth 65536 in
set_option maxHeartbeats 40000000 in
theorem rmx_e (l : Launch) (Z : State) (a0 : Array Value) (hw : ∀ d ∈ tables_1, d.before a0 Z = true) (ws : List Jvm.Cond) (a : Addr) (aS : Addr) (kS : ClassId) (s0_ : Int64) (s1_ : Int64) (s2_ : Int64) (s3_ : Int64) (s4_ : Int64) (s5_ : Int64) (s6_ : Int64) (s7_ : Int64) (q9 : Int64) (h0 : Heap) (n0 : Nat) (Z0 : n0 ≤ h0.size) (Fs : Fld Z h0 a "com/example/graph_of_conflicts/graphofconflicts/engine/OpenSnapshots" "snapshots" "[J" (.ref aS)) (Fn : Fld Z h0 a "com/example/graph_of_conflicts/graphofconflicts/engine/OpenSnapshots" "size" "I" (.int (0 : Int32))) (Vs : Arv Z h0 aS kS .long (8 : Int32) [(.long s0_), (.long s1_), (.long s2_), (.long s3_), (.long s4_), (.long s5_), (.long s6_), (.long s7_)] (.long (0 : Int64))) :
    MetFree l (⟨"com/example/graph_of_conflicts/graphofconflicts/engine/OpenSnapshots", "indexOf", "(J)I"⟩ : MethodName) (head1 (Jvm.Cond.code (⟨"com/example/graph_of_conflicts/graphofconflicts/engine/OpenSnapshots", "indexOf", "(J)I"⟩ : MethodName) prog_55_method_6_code 3 (some .int) :: ws) ({ frames := 2, cells := 0, slots := 0, locals := 37 } : Room)) (fun aQ UQ => aQ = #[(.ref a), (.long q9)] ∧ Z.Warmed39 UQ.vm ∧ UQ.heap = h0) (fun _ _ _ _ _ => True) (fun _ U o U' => ∃ v L, o = .returned v ∧ Qx_e Z a aS kS s0_ s1_ s2_ s3_ s4_ s5_ s6_ s7_ q9 h0 n0 v U'.heap L ∧ FrameEnd U o U' L ({ frames := 2, cells := 0, slots := 0, locals := 37 } : Room).cells ({ frames := 2, cells := 0, slots := 0, locals := 37 } : Room).slots) := by
  refine MetFree.of_bodySF (plainFor_of_name pnx_e) hisR ?_
  intro p e s m args below meth c s₁ Bd hml0 hP hK
  obtain ⟨rfl, hZ, hh⟩ := hP
  have hx := Bd.exec
  have hby := Bd.bytes
  have hml : c.maxLocals = 3 := hml0
  have hown : s.vm.findClass "com/example/graph_of_conflicts/graphofconflicts/engine/OpenSnapshots" = some m.cls := findClass_of_methodNamed Bd.named
  have hnm := (name_of_methodNamed Bd.named Bd.method).1
  have X0 : Stand p l e ({ frames := 2, cells := 0, slots := 0, locals := 37 } : Room) s m #[(.ref a), (.long q9)] below meth c s₁ [] 0 0 := Stand.of_body Bd
  have e0 : s₁.heap = h0 := by rw [← hh, Bd.state]; rfl
  have N0 := Fr.nil n0
  show OGo p e below (OPost s (Qx_e Z a aS kS s0_ s1_ s2_ s3_ s4_ s5_ s6_ s7_ q9 h0 n0) ({ frames := 2, cells := 0, slots := 0, locals := 37 } : Room).cells ({ frames := 2, cells := 0, slots := 0, locals := 37 } : Room).slots) (s₁.setTop (entryFrame m #[(.ref a), (.long q9)] 3))
  refine OGo.step (fun uK kK => castTop (efx_e m a q9) kK) ?_
  show OGo p e below _ (s₁.setTop (mkF m 0 #[.val (.ref a), .val (.long q9), .second] []))
  refine OGo.step (fun uK kK => XS.aloadN X0.here hx rfl (hb hby d5_0) rfl rfl kK) ?_
  show OGo p e below _ (s₁.setTop (mkF m 1 #[.val (.ref a), .val (.long q9), .second] [(.ref a)]))
  obtain ⟨T1, X1, e1, st1⟩ := getF X0 hx hZ hown (host := "") (Or.inl (hw _ (List.mem_of_getElem? (i := 15) rfl))) Via.refl e0 Fs (g := (mkF m 1 #[.val (.ref a), .val (.long q9), .second] [(.ref a)])) rfl rfl (hb hby d5_1)
  refine OGo.step (fun uK kK => st1 uK kK) ?_
  show OGo p e below _ (T1.setTop (mkF m 4 #[.val (.ref a), .val (.long q9), .second] [(.ref aS)]))
  refine OGo.step (fun uK kK => XS.iconst X1.here hx rfl (hb hby d5_4) kK) ?_
  show OGo p e below _ (T1.setTop (mkF m 5 #[.val (.ref a), .val (.long q9), .second] [(.int (0 : Int32)), (.ref aS)]))
  refine OGo.step (fun uK kK => XS.aloadN X1.here hx rfl (hb hby d5_5) rfl rfl kK) ?_
  show OGo p e below _ (T1.setTop (mkF m 6 #[.val (.ref a), .val (.long q9), .second] [(.ref a), (.int (0 : Int32)), (.ref aS)]))
  obtain ⟨T2, X2, e2, st2⟩ := getF X1 hx hZ hown (host := "") (Or.inl (hw _ (List.mem_of_getElem? (i := 29) rfl))) Via.refl e1 Fn (g := (mkF m 6 #[.val (.ref a), .val (.long q9), .second] [(.ref a), (.int (0 : Int32)), (.ref aS)])) rfl rfl (hb hby d5_6)
  refine OGo.step (fun uK kK => st2 uK kK) ?_
  show OGo p e below _ (T2.setTop (mkF m 9 #[.val (.ref a), .val (.long q9), .second] [(.int (0 : Int32)), (.int (0 : Int32)), (.ref aS)]))
  refine OGo.step (fun uK kK => XS.lloadN X2.here hx rfl (hb hby d5_9) rfl kK) ?_
  show OGo p e below _ (T2.setTop (mkF m 10 #[.val (.ref a), .val (.long q9), .second] [(.long q9), (.int (0 : Int32)), (.int (0 : Int32)), (.ref aS)]))
  obtain ⟨_, _, ⟨T3, Lq3, kq_3, nq_3⟩, -, X3, ⟨Lc3, hQ3, lq3, yq3, zq3⟩, st3⟩ := Jvm.LawKit.callS X2 hx (y := (⟨"java/util/Arrays", "binarySearch", "([JIIJ)I"⟩ : MethodName)) hown (mvT hZ (hw _ (List.mem_of_getElem? (i := 31) rfl))) (mvT hZ (hw _ (List.mem_of_getElem? (i := 32) rfl))) (mvT hZ (hw _ (List.mem_of_getElem? (i := 33) rfl))) (mvT hZ (hw _ (List.mem_of_getElem? (i := 34) rfl))) (by decide) (backOf (W := 0) (rmy_e l Z a0 hw [] aS kS s0_ s1_ s2_ s3_ s4_ s5_ s6_ s7_ q9 h0 n0 Z0 Vs) hZ (hw _ (List.mem_of_getElem? (i := 34) rfl)) (hw _ (List.mem_of_getElem? (i := 33) rfl)) (by decide) (by decide)) (g := (mkF m 10 #[.val (.ref a), .val (.long q9), .second] [(.long q9), (.int (0 : Int32)), (.int (0 : Int32)), (.ref aS)])) rfl (by rw [hml]; rfl) (argsL := [(.ref aS), (.int (0 : Int32)), (.int (0 : Int32)), (.long q9)]) (rest := []) (lenOf pdx_e_0 rfl) rfl (by show 2 * 0 + _ ≤ _; exact Nat.le_of_eq rfl) (hb hby d5_10) (fun _ _ => ⟨rfl, e2, (by decide : 0 + 0 ≤ _), (by decide : 0 + 0 ≤ _)⟩)
  dsimp only [Pt.U, Pt.locs, Pt.cells, Pt.slots] at X3 lq3 yq3 zq3 st3 hQ3
  subst lq3 yq3 zq3
  obtain ⟨rfl, Nq3, e3⟩ := hQ3
  have N3 := Fr.app N0 Nq3
  refine OGo.step (fun uK kK => st3 uK kK) ?_
  show OGo p e below _ (T3.setTop (mkF m 13 #[.val (.ref a), .val (.long q9), .second] [(.int (-1 : Int32))]))
  exact OGo.retI X3 hx Bd.notSynchronized Bd.returns (hb hby d5_13) (by decide) (by decide) (by show Qx_e Z a aS kS s0_ s1_ s2_ s3_ s4_ s5_ s6_ s7_ q9 h0 n0 _ T3.heap _; rw [e3]; exact ⟨rfl, N3, rfl⟩)
theorem d8_15 : decode jdk_65_method_56_code 15 = .ok (.iload 5, 2) := by decide +kernel
theorem d8_17 : decode jdk_65_method_56_code 17 = .ok (.iload 6, 2) := by decide +kernel
theorem d8_19 : decode jdk_65_method_56_code 19 = .ok (.iadd, 1) := by decide +kernel
theorem d8_20 : decode jdk_65_method_56_code 20 = .ok (.iconst 1, 1) := by decide +kernel
theorem d8_21 : decode jdk_65_method_56_code 21 = .ok (.iushr, 1) := by decide +kernel
theorem d8_22 : decode jdk_65_method_56_code 22 = .ok (.istore 7, 2) := by decide +kernel
theorem d8_24 : decode jdk_65_method_56_code 24 = .ok (.aload_n 0, 1) := by decide +kernel
theorem d8_25 : decode jdk_65_method_56_code 25 = .ok (.iload 7, 2) := by decide +kernel
theorem d8_27 : decode jdk_65_method_56_code 27 = .ok (.laload, 1) := by decide +kernel
theorem d8_28 : decode jdk_65_method_56_code 28 = .ok (.lstore 8, 2) := by decide +kernel
theorem d8_30 : decode jdk_65_method_56_code 30 = .ok (.lload 8, 2) := by decide +kernel
theorem d8_32 : decode jdk_65_method_56_code 32 = .ok (.lload_n 3, 1) := by decide +kernel
theorem d8_33 : decode jdk_65_method_56_code 33 = .ok (.lcmp, 1) := by decide +kernel
theorem d8_34 : decode jdk_65_method_56_code 34 = .ok (.ifCond .ge 12, 3) := by decide +kernel
theorem d8_46 : decode jdk_65_method_56_code 46 = .ok (.lload 8, 2) := by decide +kernel
theorem d8_48 : decode jdk_65_method_56_code 48 = .ok (.lload_n 3, 1) := by decide +kernel
theorem d8_49 : decode jdk_65_method_56_code 49 = .ok (.lcmp, 1) := by decide +kernel
theorem d8_50 : decode jdk_65_method_56_code 50 = .ok (.ifCond .le 12, 3) := by decide +kernel
theorem d8_62 : decode jdk_65_method_56_code 62 = .ok (.iload 7, 2) := by decide +kernel
theorem d8_64 : decode jdk_65_method_56_code 64 = .ok (.ireturn, 1) := by decide +kernel
theorem pnz_h0 : plainName "java/util/Arrays" = true := by first | (simp [plainName, overriddenIn]; done) | decide +kernel
theorem efz_h0 (m : MethodId) (x0 : Addr) (x1 : Int32) (x2 : Int32) (x3 : Int64) : entryFrame m #[(.ref x0), (.int x1), (.int x2), (.long x3)] 10 = mkF m 0 #[.val (.ref x0), .val (.int x1), .val (.int x2), .val (.long x3), .second, .unset, .unset, .unset, .unset, .unset] [] := by first | (simp [entryFrame, mkF, argsToLocals, Value.category]; done) | rfl
def Qz_h0 (Z : State) (aS : Addr) (kS : ClassId) (s0_ : Int64) (s1_ : Int64) (s2_ : Int64) (s3_ : Int64) (s4_ : Int64) (s5_ : Int64) (s6_ : Int64) (s7_ : Int64) (h0 : Heap) (n0 : Nat) (v : Option Value) (h : Heap) (L : List Loc) : Prop := v = some (.int (0 : Int32)) ∧ Fr n0 L ∧ h = h0
set_option maxRecDepth 65536 in
set_option maxHeartbeats 40000000 in
theorem rmz_h0 (l : Launch) (Z : State) (a0 : Array Value) (hw : ∀ d ∈ tables_1, d.before a0 Z = true) (ws : List Jvm.Cond) (aS : Addr) (kS : ClassId) (s0_ : Int64) (s1_ : Int64) (s2_ : Int64) (s3_ : Int64) (s4_ : Int64) (s5_ : Int64) (s6_ : Int64) (s7_ : Int64) (h0 : Heap) (n0 : Nat) (Z0 : n0 ≤ h0.size) (Vs : Arv Z h0 aS kS .long (8 : Int32) [(.long s0_), (.long s1_), (.long s2_), (.long s3_), (.long s4_), (.long s5_), (.long s6_), (.long s7_)] (.long (0 : Int64))) :
    MetFree l (⟨"java/util/Arrays", "binarySearch0", "([JIIJ)I"⟩ : MethodName) (head1 (Jvm.Cond.code (⟨"java/util/Arrays", "binarySearch0", "([JIIJ)I"⟩ : MethodName) jdk_65_method_56_code 10 (some .int) :: ws) ({ frames := 0, cells := 0, slots := 0, locals := 0 } : Room)) (fun aQ UQ => aQ = #[(.ref aS), (.int (0 : Int32)), (.int (1 : Int32)), (.long s0_)] ∧ Z.Warmed39 UQ.vm ∧ UQ.heap = h0) (fun _ _ _ _ _ => True) (fun _ U o U' => ∃ v L, o = .returned v ∧ Qz_h0 Z aS kS s0_ s1_ s2_ s3_ s4_ s5_ s6_ s7_ h0 n0 v U'.heap L ∧ FrameEnd U o U' L ({ frames := 0, cells := 0, slots := 0, locals := 0 } : Room).cells ({ frames := 0, cells := 0, slots := 0, locals := 0 } : Room).slots) := by
  refine MetFree.of_bodySF (plainFor_of_name pnz_h0) hisR ?_
  intro p e s m args below meth c s₁ Bd hml0 hP hK
  obtain ⟨rfl, hZ, hh⟩ := hP
  have hx := Bd.exec
  have hby := Bd.bytes
  have hml : c.maxLocals = 10 := hml0
  have hown : s.vm.findClass "java/util/Arrays" = some m.cls := findClass_of_methodNamed Bd.named
  have hnm := (name_of_methodNamed Bd.named Bd.method).1
  have X0 : Stand p l e ({ frames := 0, cells := 0, slots := 0, locals := 0 } : Room) s m #[(.ref aS), (.int (0 : Int32)), (.int (1 : Int32)), (.long s0_)] below meth c s₁ [] 0 0 := Stand.of_body Bd
  have e0 : s₁.heap = h0 := by rw [← hh, Bd.state]; rfl
  have N0 := Fr.nil n0
  show OGo p e below (OPost s (Qz_h0 Z aS kS s0_ s1_ s2_ s3_ s4_ s5_ s6_ s7_ h0 n0) ({ frames := 0, cells := 0, slots := 0, locals := 0 } : Room).cells ({ frames := 0, cells := 0, slots := 0, locals := 0 } : Room).slots) (s₁.setTop (entryFrame m #[(.ref aS), (.int (0 : Int32)), (.int (1 : Int32)), (.long s0_)] 10))
  refine OGo.step (fun uK kK => castTop (efz_h0 m aS (0 : Int32) (1 : Int32) s0_) kK) ?_
  show OGo p e below _ (s₁.setTop (mkF m 0 #[.val (.ref aS), .val (.int (0 : Int32)), .val (.int (1 : Int32)), .val (.long s0_), .second, .unset, .unset, .unset, .unset, .unset] []))
  refine OGo.step (fun uK kK => XS.iloadN X0.here hx rfl (hb hby d8_0) rfl kK) ?_
  show OGo p e below _ (s₁.setTop (mkF m 1 #[.val (.ref aS), .val (.int (0 : Int32)), .val (.int (1 : Int32)), .val (.long s0_), .second, .unset, .unset, .unset, .unset, .unset] [(.int (0 : Int32))]))
  refine OGo.step (fun uK kK => XS.istore X0.here hx rfl (hb hby d8_1) rfl (l' := #[.val (.ref aS), .val (.int (0 : Int32)), .val (.int (1 : Int32)), .val (.long s0_), .second, .val (.int (0 : Int32)), .unset, .unset, .unset, .unset]) rfl kK) ?_
  show OGo p e below _ (s₁.setTop (mkF m 3 #[.val (.ref aS), .val (.int (0 : Int32)), .val (.int (1 : Int32)), .val (.long s0_), .second, .val (.int (0 : Int32)), .unset, .unset, .unset, .unset] []))
  refine OGo.step (fun uK kK => XS.iloadN X0.here hx rfl (hb hby d8_3) rfl kK) ?_
  show OGo p e below _ (s₁.setTop (mkF m 4 #[.val (.ref aS), .val (.int (0 : Int32)), .val (.int (1 : Int32)), .val (.long s0_), .second, .val (.int (0 : Int32)), .unset, .unset, .unset, .unset] [(.int (1 : Int32))]))
  refine OGo.step (fun uK kK => XS.iconst X0.here hx rfl (hb hby d8_4) kK) ?_
  show OGo p e below _ (s₁.setTop (mkF m 5 #[.val (.ref aS), .val (.int (0 : Int32)), .val (.int (1 : Int32)), .val (.long s0_), .second, .val (.int (0 : Int32)), .unset, .unset, .unset, .unset] [(.int (1 : Int32)), (.int (1 : Int32))]))
  refine OGo.step (fun uK kK => XS.isub X0.here hx rfl (hb hby d8_5) rfl kK) ?_
  show OGo p e below _ (s₁.setTop (mkF m 6 #[.val (.ref aS), .val (.int (0 : Int32)), .val (.int (1 : Int32)), .val (.long s0_), .second, .val (.int (0 : Int32)), .unset, .unset, .unset, .unset] [(.int ((1 : Int32) - (1 : Int32)))]))
  have ez1 : ((1 : Int32) - (1 : Int32)) = (0 : Int32) := by decide
  rw [ez1]
  show OGo p e below _ (s₁.setTop (mkF m 6 #[.val (.ref aS), .val (.int (0 : Int32)), .val (.int (1 : Int32)), .val (.long s0_), .second, .val (.int (0 : Int32)), .unset, .unset, .unset, .unset] [(.int (0 : Int32))]))
  refine OGo.step (fun uK kK => XS.istore X0.here hx rfl (hb hby d8_6) rfl (l' := #[.val (.ref aS), .val (.int (0 : Int32)), .val (.int (1 : Int32)), .val (.long s0_), .second, .val (.int (0 : Int32)), .val (.int (0 : Int32)), .unset, .unset, .unset]) rfl kK) ?_
  show OGo p e below _ (s₁.setTop (mkF m 8 #[.val (.ref aS), .val (.int (0 : Int32)), .val (.int (1 : Int32)), .val (.long s0_), .second, .val (.int (0 : Int32)), .val (.int (0 : Int32)), .unset, .unset, .unset] []))
  refine OGo.step (fun uK kK => XS.iload X0.here hx rfl (hb hby d8_8) rfl kK) ?_
  show OGo p e below _ (s₁.setTop (mkF m 10 #[.val (.ref aS), .val (.int (0 : Int32)), .val (.int (1 : Int32)), .val (.long s0_), .second, .val (.int (0 : Int32)), .val (.int (0 : Int32)), .unset, .unset, .unset] [(.int (0 : Int32))]))
  refine OGo.step (fun uK kK => XS.iload X0.here hx rfl (hb hby d8_10) rfl kK) ?_
  show OGo p e below _ (s₁.setTop (mkF m 12 #[.val (.ref aS), .val (.int (0 : Int32)), .val (.int (1 : Int32)), .val (.long s0_), .second, .val (.int (0 : Int32)), .val (.int (0 : Int32)), .unset, .unset, .unset] [(.int (0 : Int32)), (.int (0 : Int32))]))
  have hc12 : ¬ ((0 : Int32) < (0 : Int32)) := by decide
  refine OGo.step (fun uK kK => XS.icmpNo X0.here hx rfl (hb hby d8_12) rfl (flt hc12).2.2.1 kK) ?_
  show OGo p e below _ (s₁.setTop (mkF m 15 #[.val (.ref aS), .val (.int (0 : Int32)), .val (.int (1 : Int32)), .val (.long s0_), .second, .val (.int (0 : Int32)), .val (.int (0 : Int32)), .unset, .unset, .unset] []))
  refine OGo.step (fun uK kK => XS.iload X0.here hx rfl (hb hby d8_15) rfl kK) ?_
  show OGo p e below _ (s₁.setTop (mkF m 17 #[.val (.ref aS), .val (.int (0 : Int32)), .val (.int (1 : Int32)), .val (.long s0_), .second, .val (.int (0 : Int32)), .val (.int (0 : Int32)), .unset, .unset, .unset] [(.int (0 : Int32))]))
  refine OGo.step (fun uK kK => XS.iload X0.here hx rfl (hb hby d8_17) rfl kK) ?_
  show OGo p e below _ (s₁.setTop (mkF m 19 #[.val (.ref aS), .val (.int (0 : Int32)), .val (.int (1 : Int32)), .val (.long s0_), .second, .val (.int (0 : Int32)), .val (.int (0 : Int32)), .unset, .unset, .unset] [(.int (0 : Int32)), (.int (0 : Int32))]))
  refine OGo.step (fun uK kK => XS.iadd X0.here hx rfl (hb hby d8_19) rfl kK) ?_
  show OGo p e below _ (s₁.setTop (mkF m 20 #[.val (.ref aS), .val (.int (0 : Int32)), .val (.int (1 : Int32)), .val (.long s0_), .second, .val (.int (0 : Int32)), .val (.int (0 : Int32)), .unset, .unset, .unset] [(.int ((0 : Int32) + (0 : Int32)))]))
  have ez2 : ((0 : Int32) + (0 : Int32)) = (0 : Int32) := by decide
  rw [ez2]
  show OGo p e below _ (s₁.setTop (mkF m 20 #[.val (.ref aS), .val (.int (0 : Int32)), .val (.int (1 : Int32)), .val (.long s0_), .second, .val (.int (0 : Int32)), .val (.int (0 : Int32)), .unset, .unset, .unset] [(.int (0 : Int32))]))
  refine OGo.step (fun uK kK => XS.iconst X0.here hx rfl (hb hby d8_20) kK) ?_
  show OGo p e below _ (s₁.setTop (mkF m 21 #[.val (.ref aS), .val (.int (0 : Int32)), .val (.int (1 : Int32)), .val (.long s0_), .second, .val (.int (0 : Int32)), .val (.int (0 : Int32)), .unset, .unset, .unset] [(.int (1 : Int32)), (.int (0 : Int32))]))
  refine OGo.step (fun uK kK => XS.iushr X0.here hx rfl (hb hby d8_21) rfl kK) ?_
  show OGo p e below _ (s₁.setTop (mkF m 22 #[.val (.ref aS), .val (.int (0 : Int32)), .val (.int (1 : Int32)), .val (.long s0_), .second, .val (.int (0 : Int32)), .val (.int (0 : Int32)), .unset, .unset, .unset] [(.int (((0 : Int32).toUInt32 >>> ((1 : Int32) &&& 31).toUInt32).toInt32))]))
  have ez3 : (((0 : Int32).toUInt32 >>> ((1 : Int32) &&& 31).toUInt32).toInt32) = (0 : Int32) := by decide
  rw [ez3]
  show OGo p e below _ (s₁.setTop (mkF m 22 #[.val (.ref aS), .val (.int (0 : Int32)), .val (.int (1 : Int32)), .val (.long s0_), .second, .val (.int (0 : Int32)), .val (.int (0 : Int32)), .unset, .unset, .unset] [(.int (0 : Int32))]))
  refine OGo.step (fun uK kK => XS.istore X0.here hx rfl (hb hby d8_22) rfl (l' := #[.val (.ref aS), .val (.int (0 : Int32)), .val (.int (1 : Int32)), .val (.long s0_), .second, .val (.int (0 : Int32)), .val (.int (0 : Int32)), .val (.int (0 : Int32)), .unset, .unset]) rfl kK) ?_
  show OGo p e below _ (s₁.setTop (mkF m 24 #[.val (.ref aS), .val (.int (0 : Int32)), .val (.int (1 : Int32)), .val (.long s0_), .second, .val (.int (0 : Int32)), .val (.int (0 : Int32)), .val (.int (0 : Int32)), .unset, .unset] []))
  refine OGo.step (fun uK kK => XS.aloadN X0.here hx rfl (hb hby d8_24) rfl rfl kK) ?_
  show OGo p e below _ (s₁.setTop (mkF m 25 #[.val (.ref aS), .val (.int (0 : Int32)), .val (.int (1 : Int32)), .val (.long s0_), .second, .val (.int (0 : Int32)), .val (.int (0 : Int32)), .val (.int (0 : Int32)), .unset, .unset] [(.ref aS)]))
  refine OGo.step (fun uK kK => XS.iload X0.here hx rfl (hb hby d8_25) rfl kK) ?_
  show OGo p e below _ (s₁.setTop (mkF m 27 #[.val (.ref aS), .val (.int (0 : Int32)), .val (.int (1 : Int32)), .val (.long s0_), .second, .val (.int (0 : Int32)), .val (.int (0 : Int32)), .val (.int (0 : Int32)), .unset, .unset] [(.int (0 : Int32)), (.ref aS)]))
  obtain ⟨cl4, Ar4, q4, S4, M4, H4, G4⟩ := id Vs
  have hin4 : ¬ ((0 : Int32) < 0 ∨ cl4.slots.size ≤ ((0 : Int32)).toNatClampNeg) := inb_of S4 ⟨by decide, by decide⟩
  have hat4 : cl4.slots[((0 : Int32)).toNatClampNeg]? = some (.long s0_) := H4.at hin4 rfl
  refine OGo.step (fun uK kK => X0.laload hx (j := (0 : Int32)) (v := (.long s0_)) (by rw [e0]; exact Ar4.1) (State.isArrayOf_alike hZ.alike Ar4.2.1) Ar4.2.2 hin4 hat4 (g := (mkF m 27 #[.val (.ref aS), .val (.int (0 : Int32)), .val (.int (1 : Int32)), .val (.long s0_), .second, .val (.int (0 : Int32)), .val (.int (0 : Int32)), .val (.int (0 : Int32)), .unset, .unset] [(.int (0 : Int32)), (.ref aS)])) rfl rfl (hb hby d8_27) uK kK) ?_
  show OGo p e below _ (s₁.setTop (mkF m 28 #[.val (.ref aS), .val (.int (0 : Int32)), .val (.int (1 : Int32)), .val (.long s0_), .second, .val (.int (0 : Int32)), .val (.int (0 : Int32)), .val (.int (0 : Int32)), .unset, .unset] [(.long s0_)]))
  refine OGo.step (fun uK kK => XS.lstore X0.here hx rfl (hb hby d8_28) rfl (l' := #[.val (.ref aS), .val (.int (0 : Int32)), .val (.int (1 : Int32)), .val (.long s0_), .second, .val (.int (0 : Int32)), .val (.int (0 : Int32)), .val (.int (0 : Int32)), .val (.long s0_), .second]) rfl kK) ?_
  show OGo p e below _ (s₁.setTop (mkF m 30 #[.val (.ref aS), .val (.int (0 : Int32)), .val (.int (1 : Int32)), .val (.long s0_), .second, .val (.int (0 : Int32)), .val (.int (0 : Int32)), .val (.int (0 : Int32)), .val (.long s0_), .second] []))
  refine OGo.step (fun uK kK => XS.lload X0.here hx rfl (hb hby d8_30) rfl kK) ?_
  show OGo p e below _ (s₁.setTop (mkF m 32 #[.val (.ref aS), .val (.int (0 : Int32)), .val (.int (1 : Int32)), .val (.long s0_), .second, .val (.int (0 : Int32)), .val (.int (0 : Int32)), .val (.int (0 : Int32)), .val (.long s0_), .second] [(.long s0_)]))
  refine OGo.step (fun uK kK => XS.lloadN X0.here hx rfl (hb hby d8_32) rfl kK) ?_
  show OGo p e below _ (s₁.setTop (mkF m 33 #[.val (.ref aS), .val (.int (0 : Int32)), .val (.int (1 : Int32)), .val (.long s0_), .second, .val (.int (0 : Int32)), .val (.int (0 : Int32)), .val (.int (0 : Int32)), .val (.long s0_), .second] [(.long s0_), (.long s0_)]))
  refine OGo.step (fun uK kK => XS.lcmp X0.here hx rfl (hb hby d8_33) rfl kK) ?_
  show OGo p e below _ (s₁.setTop (mkF m 34 #[.val (.ref aS), .val (.int (0 : Int32)), .val (.int (1 : Int32)), .val (.long s0_), .second, .val (.int (0 : Int32)), .val (.int (0 : Int32)), .val (.int (0 : Int32)), .val (.long s0_), .second] [(.int (lcmpW s0_ s0_))]))
  have hc34 : ¬ (s0_ < s0_) := own_lirr _
  refine OGo.step (fun uK kK => XS.ifYes X0.here hx rfl (pc0 := 34) (pc' := 46) rfl (hb hby d8_34) rfl ((if0 _ _).trans (flt (fun q => hc34 ((lw_lt _ _).mp q))).2.1) (by decide) (by decide) kK) ?_
  show OGo p e below _ (s₁.setTop (mkF m 46 #[.val (.ref aS), .val (.int (0 : Int32)), .val (.int (1 : Int32)), .val (.long s0_), .second, .val (.int (0 : Int32)), .val (.int (0 : Int32)), .val (.int (0 : Int32)), .val (.long s0_), .second] []))
  refine OGo.step (fun uK kK => XS.lload X0.here hx rfl (hb hby d8_46) rfl kK) ?_
  show OGo p e below _ (s₁.setTop (mkF m 48 #[.val (.ref aS), .val (.int (0 : Int32)), .val (.int (1 : Int32)), .val (.long s0_), .second, .val (.int (0 : Int32)), .val (.int (0 : Int32)), .val (.int (0 : Int32)), .val (.long s0_), .second] [(.long s0_)]))
  refine OGo.step (fun uK kK => XS.lloadN X0.here hx rfl (hb hby d8_48) rfl kK) ?_
  show OGo p e below _ (s₁.setTop (mkF m 49 #[.val (.ref aS), .val (.int (0 : Int32)), .val (.int (1 : Int32)), .val (.long s0_), .second, .val (.int (0 : Int32)), .val (.int (0 : Int32)), .val (.int (0 : Int32)), .val (.long s0_), .second] [(.long s0_), (.long s0_)]))
  refine OGo.step (fun uK kK => XS.lcmp X0.here hx rfl (hb hby d8_49) rfl kK) ?_
  show OGo p e below _ (s₁.setTop (mkF m 50 #[.val (.ref aS), .val (.int (0 : Int32)), .val (.int (1 : Int32)), .val (.long s0_), .second, .val (.int (0 : Int32)), .val (.int (0 : Int32)), .val (.int (0 : Int32)), .val (.long s0_), .second] [(.int (lcmpW s0_ s0_))]))
  have hc50 : ¬ (s0_ < s0_) := own_lirr _
  refine OGo.step (fun uK kK => XS.ifYes X0.here hx rfl (pc0 := 50) (pc' := 62) rfl (hb hby d8_50) rfl ((if0 _ _).trans (flt (fun q => hc50 ((lw_gt _ _).mp q))).2.2.2) (by decide) (by decide) kK) ?_
  show OGo p e below _ (s₁.setTop (mkF m 62 #[.val (.ref aS), .val (.int (0 : Int32)), .val (.int (1 : Int32)), .val (.long s0_), .second, .val (.int (0 : Int32)), .val (.int (0 : Int32)), .val (.int (0 : Int32)), .val (.long s0_), .second] []))
  refine OGo.step (fun uK kK => XS.iload X0.here hx rfl (hb hby d8_62) rfl kK) ?_
  show OGo p e below _ (s₁.setTop (mkF m 64 #[.val (.ref aS), .val (.int (0 : Int32)), .val (.int (1 : Int32)), .val (.long s0_), .second, .val (.int (0 : Int32)), .val (.int (0 : Int32)), .val (.int (0 : Int32)), .val (.long s0_), .second] [(.int (0 : Int32))]))
  exact OGo.retI X0 hx Bd.notSynchronized Bd.returns (hb hby d8_64) (by decide) (by decide) (by show Qz_h0 Z aS kS s0_ s1_ s2_ s3_ s4_ s5_ s6_ s7_ h0 n0 _ s₁.heap _; rw [e0]; exact ⟨rfl, N0, rfl⟩)
theorem pny_h0 : plainName "java/util/Arrays" = true := by first | (simp [plainName, overriddenIn]; done) | decide +kernel
theorem pdy_h0_0 : parseMethodDescriptor "(III)V" = some ⟨[.int, .int, .int], none⟩ := by decide +kernel
theorem pdy_h0_1 : parseMethodDescriptor "([JIIJ)I" = some ⟨[(.array .long), .int, .int, .long], some .int⟩ := by decide +kernel
theorem efy_h0 (m : MethodId) (x0 : Addr) (x1 : Int32) (x2 : Int32) (x3 : Int64) : entryFrame m #[(.ref x0), (.int x1), (.int x2), (.long x3)] 5 = mkF m 0 #[.val (.ref x0), .val (.int x1), .val (.int x2), .val (.long x3), .second] [] := by first | (simp [entryFrame, mkF, argsToLocals, Value.category]; done) | rfl
def Qy_h0 (Z : State) (aS : Addr) (kS : ClassId) (s0_ : Int64) (s1_ : Int64) (s2_ : Int64) (s3_ : Int64) (s4_ : Int64) (s5_ : Int64) (s6_ : Int64) (s7_ : Int64) (h0 : Heap) (n0 : Nat) (v : Option Value) (h : Heap) (L : List Loc) : Prop := v = some (.int (0 : Int32)) ∧ Fr n0 L ∧ h = h0
set_option maxRecDepth 65536 in
set_option maxHeartbeats 40000000 in
theorem rmy_h0 (l : Launch) (Z : State) (a0 : Array Value) (hw : ∀ d ∈ tables_1, d.before a0 Z = true) (ws : List Jvm.Cond) (aS : Addr) (kS : ClassId) (s0_ : Int64) (s1_ : Int64) (s2_ : Int64) (s3_ : Int64) (s4_ : Int64) (s5_ : Int64) (s6_ : Int64) (s7_ : Int64) (h0 : Heap) (n0 : Nat) (Z0 : n0 ≤ h0.size) (Vs : Arv Z h0 aS kS .long (8 : Int32) [(.long s0_), (.long s1_), (.long s2_), (.long s3_), (.long s4_), (.long s5_), (.long s6_), (.long s7_)] (.long (0 : Int64))) :
    MetFree l (⟨"java/util/Arrays", "binarySearch", "([JIIJ)I"⟩ : MethodName) (head1 (Jvm.Cond.code (⟨"java/util/Arrays", "binarySearch", "([JIIJ)I"⟩ : MethodName) jdk_65_method_55_code 5 (some .int) :: ws) ({ frames := 1, cells := 0, slots := 0, locals := 21 } : Room)) (fun aQ UQ => aQ = #[(.ref aS), (.int (0 : Int32)), (.int (1 : Int32)), (.long s0_)] ∧ Z.Warmed39 UQ.vm ∧ UQ.heap = h0) (fun _ _ _ _ _ => True) (fun _ U o U' => ∃ v L, o = .returned v ∧ Qy_h0 Z aS kS s0_ s1_ s2_ s3_ s4_ s5_ s6_ s7_ h0 n0 v U'.heap L ∧ FrameEnd U o U' L ({ frames := 1, cells := 0, slots := 0, locals := 21 } : Room).cells ({ frames := 1, cells := 0, slots := 0, locals := 21 } : Room).slots) := by
  refine MetFree.of_bodySF (plainFor_of_name pny_h0) hisR ?_
  intro p e s m args below meth c s₁ Bd hml0 hP hK
  obtain ⟨rfl, hZ, hh⟩ := hP
  have hx := Bd.exec
  have hby := Bd.bytes
  have hml : c.maxLocals = 5 := hml0
  have hown : s.vm.findClass "java/util/Arrays" = some m.cls := findClass_of_methodNamed Bd.named
  have hnm := (name_of_methodNamed Bd.named Bd.method).1
  have X0 : Stand p l e ({ frames := 1, cells := 0, slots := 0, locals := 21 } : Room) s m #[(.ref aS), (.int (0 : Int32)), (.int (1 : Int32)), (.long s0_)] below meth c s₁ [] 0 0 := Stand.of_body Bd
  have e0 : s₁.heap = h0 := by rw [← hh, Bd.state]; rfl
  have N0 := Fr.nil n0
  show OGo p e below (OPost s (Qy_h0 Z aS kS s0_ s1_ s2_ s3_ s4_ s5_ s6_ s7_ h0 n0) ({ frames := 1, cells := 0, slots := 0, locals := 21 } : Room).cells ({ frames := 1, cells := 0, slots := 0, locals := 21 } : Room).slots) (s₁.setTop (entryFrame m #[(.ref aS), (.int (0 : Int32)), (.int (1 : Int32)), (.long s0_)] 5))
  refine OGo.step (fun uK kK => castTop (efy_h0 m aS (0 : Int32) (1 : Int32) s0_) kK) ?_
  show OGo p e below _ (s₁.setTop (mkF m 0 #[.val (.ref aS), .val (.int (0 : Int32)), .val (.int (1 : Int32)), .val (.long s0_), .second] []))
  refine OGo.step (fun uK kK => XS.aloadN X0.here hx rfl (hb hby d6_0) rfl rfl kK) ?_
  show OGo p e below _ (s₁.setTop (mkF m 1 #[.val (.ref aS), .val (.int (0 : Int32)), .val (.int (1 : Int32)), .val (.long s0_), .second] [(.ref aS)]))
  obtain ⟨cl1, Ar1, -, S1, M1, -, -⟩ := id Vs
  refine OGo.step (fun uK kK => X0.arraylength hx (by rw [e0]; exact Ar1.1) (State.isArrayOf_alike hZ.alike Ar1.2.1) (g := (mkF m 1 #[.val (.ref aS), .val (.int (0 : Int32)), .val (.int (1 : Int32)), .val (.long s0_), .second] [(.ref aS)])) rfl rfl (hb hby d6_1) uK kK) ?_
  rw [len_of S1 M1]
  show OGo p e below _ (s₁.setTop (mkF m 2 #[.val (.ref aS), .val (.int (0 : Int32)), .val (.int (1 : Int32)), .val (.long s0_), .second] [(.int (8 : Int32))]))
  refine OGo.step (fun uK kK => XS.iloadN X0.here hx rfl (hb hby d6_2) rfl kK) ?_
  show OGo p e below _ (s₁.setTop (mkF m 3 #[.val (.ref aS), .val (.int (0 : Int32)), .val (.int (1 : Int32)), .val (.long s0_), .second] [(.int (0 : Int32)), (.int (8 : Int32))]))
  refine OGo.step (fun uK kK => XS.iloadN X0.here hx rfl (hb hby d6_3) rfl kK) ?_
  show OGo p e below _ (s₁.setTop (mkF m 4 #[.val (.ref aS), .val (.int (0 : Int32)), .val (.int (1 : Int32)), .val (.long s0_), .second] [(.int (1 : Int32)), (.int (0 : Int32)), (.int (8 : Int32))]))
  obtain ⟨_, _, ⟨T2, Lq2, kq_2, nq_2⟩, -, X2, ⟨Lc2, hQ2, lq2, yq2, zq2⟩, st2⟩ := Jvm.LawKit.callS X0 hx (y := (⟨"java/util/Arrays", "rangeCheck", "(III)V"⟩ : MethodName)) hown (mvT hZ (hw _ (List.mem_of_getElem? (i := 35) rfl))) (mvT hZ (hw _ (List.mem_of_getElem? (i := 36) rfl))) (mvT hZ (hw _ (List.mem_of_getElem? (i := 33) rfl))) (mvT hZ (hw _ (List.mem_of_getElem? (i := 37) rfl))) (by decide) (backOf (W := 0) (rmrc l Z a0 hw [] (8 : Int32) (0 : Int32) (1 : Int32)  h0 n0 Z0 (by decide) (by decide) (by decide)) hZ (hw _ (List.mem_of_getElem? (i := 37) rfl)) (hw _ (List.mem_of_getElem? (i := 33) rfl)) (by decide) (by decide)) (g := (mkF m 4 #[.val (.ref aS), .val (.int (0 : Int32)), .val (.int (1 : Int32)), .val (.long s0_), .second] [(.int (1 : Int32)), (.int (0 : Int32)), (.int (8 : Int32))])) rfl (by rw [hml]; rfl) (argsL := [(.int (8 : Int32)), (.int (0 : Int32)), (.int (1 : Int32))]) (rest := []) (lenOf pdy_h0_0 rfl) rfl (by show 2 * 0 + _ ≤ _; exact Nat.le_of_eq rfl) (hb hby d6_4) (fun _ _ => ⟨rfl, e0, (by decide : 0 + 0 ≤ _), (by decide : 0 + 0 ≤ _)⟩)
  dsimp only [Pt.U, Pt.locs, Pt.cells, Pt.slots] at X2 lq2 yq2 zq2 st2 hQ2
  subst lq2 yq2 zq2
  obtain ⟨rfl, Nq2, e2⟩ := hQ2
  have N2 := Fr.app N0 Nq2
  refine OGo.step (fun uK kK => st2 uK kK) ?_
  show OGo p e below _ (T2.setTop (mkF m 7 #[.val (.ref aS), .val (.int (0 : Int32)), .val (.int (1 : Int32)), .val (.long s0_), .second] []))
  refine OGo.step (fun uK kK => XS.aloadN X2.here hx rfl (hb hby d6_7) rfl rfl kK) ?_
  show OGo p e below _ (T2.setTop (mkF m 8 #[.val (.ref aS), .val (.int (0 : Int32)), .val (.int (1 : Int32)), .val (.long s0_), .second] [(.ref aS)]))
  refine OGo.step (fun uK kK => XS.iloadN X2.here hx rfl (hb hby d6_8) rfl kK) ?_
  show OGo p e below _ (T2.setTop (mkF m 9 #[.val (.ref aS), .val (.int (0 : Int32)), .val (.int (1 : Int32)), .val (.long s0_), .second] [(.int (0 : Int32)), (.ref aS)]))
  refine OGo.step (fun uK kK => XS.iloadN X2.here hx rfl (hb hby d6_9) rfl kK) ?_
  show OGo p e below _ (T2.setTop (mkF m 10 #[.val (.ref aS), .val (.int (0 : Int32)), .val (.int (1 : Int32)), .val (.long s0_), .second] [(.int (1 : Int32)), (.int (0 : Int32)), (.ref aS)]))
  refine OGo.step (fun uK kK => XS.lloadN X2.here hx rfl (hb hby d6_10) rfl kK) ?_
  show OGo p e below _ (T2.setTop (mkF m 11 #[.val (.ref aS), .val (.int (0 : Int32)), .val (.int (1 : Int32)), .val (.long s0_), .second] [(.long s0_), (.int (1 : Int32)), (.int (0 : Int32)), (.ref aS)]))
  obtain ⟨_, _, ⟨T3, Lq3, kq_3, nq_3⟩, -, X3, ⟨Lc3, hQ3, lq3, yq3, zq3⟩, st3⟩ := Jvm.LawKit.callS X2 hx (y := (⟨"java/util/Arrays", "binarySearch0", "([JIIJ)I"⟩ : MethodName)) hown (mvT hZ (hw _ (List.mem_of_getElem? (i := 38) rfl))) (mvT hZ (hw _ (List.mem_of_getElem? (i := 39) rfl))) (mvT hZ (hw _ (List.mem_of_getElem? (i := 33) rfl))) (mvT hZ (hw _ (List.mem_of_getElem? (i := 40) rfl))) (by decide) (backOf (W := 0) (rmz_h0 l Z a0 hw [] aS kS s0_ s1_ s2_ s3_ s4_ s5_ s6_ s7_ h0 n0 Z0 Vs) hZ (hw _ (List.mem_of_getElem? (i := 40) rfl)) (hw _ (List.mem_of_getElem? (i := 33) rfl)) (by decide) (by decide)) (g := (mkF m 11 #[.val (.ref aS), .val (.int (0 : Int32)), .val (.int (1 : Int32)), .val (.long s0_), .second] [(.long s0_), (.int (1 : Int32)), (.int (0 : Int32)), (.ref aS)])) rfl (by rw [hml]; rfl) (argsL := [(.ref aS), (.int (0 : Int32)), (.int (1 : Int32)), (.long s0_)]) (rest := []) (lenOf pdy_h0_1 rfl) rfl (by show 2 * 0 + _ ≤ _; exact Nat.le_of_eq rfl) (hb hby d6_11) (fun _ _ => ⟨rfl, e2, (by decide : 0 + 0 ≤ _), (by decide : 0 + 0 ≤ _)⟩)
  dsimp only [Pt.U, Pt.locs, Pt.cells, Pt.slots] at X3 lq3 yq3 zq3 st3 hQ3
  subst lq3 yq3 zq3
  obtain ⟨rfl, Nq3, e3⟩ := hQ3
  have N3 := Fr.app N2 Nq3
  refine OGo.step (fun uK kK => st3 uK kK) ?_
  show OGo p e below _ (T3.setTop (mkF m 14 #[.val (.ref aS), .val (.int (0 : Int32)), .val (.int (1 : Int32)), .val (.long s0_), .second] [(.int (0 : Int32))]))
  exact OGo.retI X3 hx Bd.notSynchronized Bd.returns (hb hby d6_14) (by decide) (by decide) (by show Qy_h0 Z aS kS s0_ s1_ s2_ s3_ s4_ s5_ s6_ s7_ h0 n0 _ T3.heap _; rw [e3]; exact ⟨rfl, N3, rfl⟩)
theorem pnx_h0 : plainName "com/example/graph_of_conflicts/graphofconflicts/engine/OpenSnapshots" = true := by first | (simp [plainName, overriddenIn]; done) | decide +kernel
theorem pdx_h0_0 : parseMethodDescriptor "([JIIJ)I" = some ⟨[(.array .long), .int, .int, .long], some .int⟩ := by decide +kernel
theorem efx_h0 (m : MethodId) (x0 : Addr) (x1 : Int64) : entryFrame m #[(.ref x0), (.long x1)] 3 = mkF m 0 #[.val (.ref x0), .val (.long x1), .second] [] := by first | (simp [entryFrame, mkF, argsToLocals, Value.category]; done) | rfl
def Qx_h0 (Z : State) (a : Addr) (aS : Addr) (kS : ClassId) (s0_ : Int64) (s1_ : Int64) (s2_ : Int64) (s3_ : Int64) (s4_ : Int64) (s5_ : Int64) (s6_ : Int64) (s7_ : Int64) (h0 : Heap) (n0 : Nat) (v : Option Value) (h : Heap) (L : List Loc) : Prop := v = some (.int (0 : Int32)) ∧ Fr n0 L ∧ h = h0
set_option maxRecDepth 65536 in
set_option maxHeartbeats 40000000 in
theorem rmx_h0 (l : Launch) (Z : State) (a0 : Array Value) (hw : ∀ d ∈ tables_1, d.before a0 Z = true) (ws : List Jvm.Cond) (a : Addr) (aS : Addr) (kS : ClassId) (s0_ : Int64) (s1_ : Int64) (s2_ : Int64) (s3_ : Int64) (s4_ : Int64) (s5_ : Int64) (s6_ : Int64) (s7_ : Int64) (h0 : Heap) (n0 : Nat) (Z0 : n0 ≤ h0.size) (Fs : Fld Z h0 a "com/example/graph_of_conflicts/graphofconflicts/engine/OpenSnapshots" "snapshots" "[J" (.ref aS)) (Fn : Fld Z h0 a "com/example/graph_of_conflicts/graphofconflicts/engine/OpenSnapshots" "size" "I" (.int (1 : Int32))) (Vs : Arv Z h0 aS kS .long (8 : Int32) [(.long s0_), (.long s1_), (.long s2_), (.long s3_), (.long s4_), (.long s5_), (.long s6_), (.long s7_)] (.long (0 : Int64))) :
    MetFree l (⟨"com/example/graph_of_conflicts/graphofconflicts/engine/OpenSnapshots", "indexOf", "(J)I"⟩ : MethodName) (head1 (Jvm.Cond.code (⟨"com/example/graph_of_conflicts/graphofconflicts/engine/OpenSnapshots", "indexOf", "(J)I"⟩ : MethodName) prog_55_method_6_code 3 (some .int) :: ws) ({ frames := 2, cells := 0, slots := 0, locals := 37 } : Room)) (fun aQ UQ => aQ = #[(.ref a), (.long s0_)] ∧ Z.Warmed39 UQ.vm ∧ UQ.heap = h0) (fun _ _ _ _ _ => True) (fun _ U o U' => ∃ v L, o = .returned v ∧ Qx_h0 Z a aS kS s0_ s1_ s2_ s3_ s4_ s5_ s6_ s7_ h0 n0 v U'.heap L ∧ FrameEnd U o U' L ({ frames := 2, cells := 0, slots := 0, locals := 37 } : Room).cells ({ frames := 2, cells := 0, slots := 0, locals := 37 } : Room).slots) := by
  refine MetFree.of_bodySF (plainFor_of_name pnx_h0) hisR ?_
  intro p e s m args below meth c s₁ Bd hml0 hP hK
  obtain ⟨rfl, hZ, hh⟩ := hP
  have hx := Bd.exec
  have hby := Bd.bytes
  have hml : c.maxLocals = 3 := hml0
  have hown : s.vm.findClass "com/example/graph_of_conflicts/graphofconflicts/engine/OpenSnapshots" = some m.cls := findClass_of_methodNamed Bd.named
  have hnm := (name_of_methodNamed Bd.named Bd.method).1
  have X0 : Stand p l e ({ frames := 2, cells := 0, slots := 0, locals := 37 } : Room) s m #[(.ref a), (.long s0_)] below meth c s₁ [] 0 0 := Stand.of_body Bd
  have e0 : s₁.heap = h0 := by rw [← hh, Bd.state]; rfl
  have N0 := Fr.nil n0
  show OGo p e below (OPost s (Qx_h0 Z a aS kS s0_ s1_ s2_ s3_ s4_ s5_ s6_ s7_ h0 n0) ({ frames := 2, cells := 0, slots := 0, locals := 37 } : Room).cells ({ frames := 2, cells := 0, slots := 0, locals := 37 } : Room).slots) (s₁.setTop (entryFrame m #[(.ref a), (.long s0_)] 3))
  refine OGo.step (fun uK kK => castTop (efx_h0 m a s0_) kK) ?_
  show OGo p e below _ (s₁.setTop (mkF m 0 #[.val (.ref a), .val (.long s0_), .second] []))
  refine OGo.step (fun uK kK => XS.aloadN X0.here hx rfl (hb hby d5_0) rfl rfl kK) ?_
  show OGo p e below _ (s₁.setTop (mkF m 1 #[.val (.ref a), .val (.long s0_), .second] [(.ref a)]))
  obtain ⟨T1, X1, e1, st1⟩ := getF X0 hx hZ hown (host := "") (Or.inl (hw _ (List.mem_of_getElem? (i := 15) rfl))) Via.refl e0 Fs (g := (mkF m 1 #[.val (.ref a), .val (.long s0_), .second] [(.ref a)])) rfl rfl (hb hby d5_1)
  refine OGo.step (fun uK kK => st1 uK kK) ?_
  show OGo p e below _ (T1.setTop (mkF m 4 #[.val (.ref a), .val (.long s0_), .second] [(.ref aS)]))
  refine OGo.step (fun uK kK => XS.iconst X1.here hx rfl (hb hby d5_4) kK) ?_
  show OGo p e below _ (T1.setTop (mkF m 5 #[.val (.ref a), .val (.long s0_), .second] [(.int (0 : Int32)), (.ref aS)]))
  refine OGo.step (fun uK kK => XS.aloadN X1.here hx rfl (hb hby d5_5) rfl rfl kK) ?_
  show OGo p e below _ (T1.setTop (mkF m 6 #[.val (.ref a), .val (.long s0_), .second] [(.ref a), (.int (0 : Int32)), (.ref aS)]))
  obtain ⟨T2, X2, e2, st2⟩ := getF X1 hx hZ hown (host := "") (Or.inl (hw _ (List.mem_of_getElem? (i := 29) rfl))) Via.refl e1 Fn (g := (mkF m 6 #[.val (.ref a), .val (.long s0_), .second] [(.ref a), (.int (0 : Int32)), (.ref aS)])) rfl rfl (hb hby d5_6)
  refine OGo.step (fun uK kK => st2 uK kK) ?_
  show OGo p e below _ (T2.setTop (mkF m 9 #[.val (.ref a), .val (.long s0_), .second] [(.int (1 : Int32)), (.int (0 : Int32)), (.ref aS)]))
  refine OGo.step (fun uK kK => XS.lloadN X2.here hx rfl (hb hby d5_9) rfl kK) ?_
  show OGo p e below _ (T2.setTop (mkF m 10 #[.val (.ref a), .val (.long s0_), .second] [(.long s0_), (.int (1 : Int32)), (.int (0 : Int32)), (.ref aS)]))
  obtain ⟨_, _, ⟨T3, Lq3, kq_3, nq_3⟩, -, X3, ⟨Lc3, hQ3, lq3, yq3, zq3⟩, st3⟩ := Jvm.LawKit.callS X2 hx (y := (⟨"java/util/Arrays", "binarySearch", "([JIIJ)I"⟩ : MethodName)) hown (mvT hZ (hw _ (List.mem_of_getElem? (i := 31) rfl))) (mvT hZ (hw _ (List.mem_of_getElem? (i := 32) rfl))) (mvT hZ (hw _ (List.mem_of_getElem? (i := 33) rfl))) (mvT hZ (hw _ (List.mem_of_getElem? (i := 34) rfl))) (by decide) (backOf (W := 0) (rmy_h0 l Z a0 hw [] aS kS s0_ s1_ s2_ s3_ s4_ s5_ s6_ s7_ h0 n0 Z0 Vs) hZ (hw _ (List.mem_of_getElem? (i := 34) rfl)) (hw _ (List.mem_of_getElem? (i := 33) rfl)) (by decide) (by decide)) (g := (mkF m 10 #[.val (.ref a), .val (.long s0_), .second] [(.long s0_), (.int (1 : Int32)), (.int (0 : Int32)), (.ref aS)])) rfl (by rw [hml]; rfl) (argsL := [(.ref aS), (.int (0 : Int32)), (.int (1 : Int32)), (.long s0_)]) (rest := []) (lenOf pdx_h0_0 rfl) rfl (by show 2 * 0 + _ ≤ _; exact Nat.le_of_eq rfl) (hb hby d5_10) (fun _ _ => ⟨rfl, e2, (by decide : 0 + 0 ≤ _), (by decide : 0 + 0 ≤ _)⟩)
  dsimp only [Pt.U, Pt.locs, Pt.cells, Pt.slots] at X3 lq3 yq3 zq3 st3 hQ3
  subst lq3 yq3 zq3
  obtain ⟨rfl, Nq3, e3⟩ := hQ3
  have N3 := Fr.app N0 Nq3
  refine OGo.step (fun uK kK => st3 uK kK) ?_
  show OGo p e below _ (T3.setTop (mkF m 13 #[.val (.ref a), .val (.long s0_), .second] [(.int (0 : Int32))]))
  exact OGo.retI X3 hx Bd.notSynchronized Bd.returns (hb hby d5_13) (by decide) (by decide) (by show Qx_h0 Z a aS kS s0_ s1_ s2_ s3_ s4_ s5_ s6_ s7_ h0 n0 _ T3.heap _; rw [e3]; exact ⟨rfl, N3, rfl⟩)
theorem d8_37 : decode jdk_65_method_56_code 37 = .ok (.iload 7, 2) := by decide +kernel
theorem d8_39 : decode jdk_65_method_56_code 39 = .ok (.iconst 1, 1) := by decide +kernel
theorem d8_40 : decode jdk_65_method_56_code 40 = .ok (.iadd, 1) := by decide +kernel
theorem d8_41 : decode jdk_65_method_56_code 41 = .ok (.istore 5, 2) := by decide +kernel
theorem d8_43 : decode jdk_65_method_56_code 43 = .ok (.goto 22, 3) := by decide +kernel
theorem d8_65 : decode jdk_65_method_56_code 65 = .ok (.goto (-57), 3) := by decide +kernel
theorem pnz_g0 : plainName "java/util/Arrays" = true := by first | (simp [plainName, overriddenIn]; done) | decide +kernel
theorem efz_g0 (m : MethodId) (x0 : Addr) (x1 : Int32) (x2 : Int32) (x3 : Int64) : entryFrame m #[(.ref x0), (.int x1), (.int x2), (.long x3)] 10 = mkF m 0 #[.val (.ref x0), .val (.int x1), .val (.int x2), .val (.long x3), .second, .unset, .unset, .unset, .unset, .unset] [] := by first | (simp [entryFrame, mkF, argsToLocals, Value.category]; done) | rfl
def Qz_g0 (Z : State) (aS : Addr) (kS : ClassId) (s0_ : Int64) (s1_ : Int64) (s2_ : Int64) (s3_ : Int64) (s4_ : Int64) (s5_ : Int64) (s6_ : Int64) (s7_ : Int64) (q9 : Int64) (h0 : Heap) (n0 : Nat) (v : Option Value) (h : Heap) (L : List Loc) : Prop := v = some (.int (-2 : Int32)) ∧ Fr n0 L ∧ h = h0
set_option maxRecDepth 65536 in
set_option maxHeartbeats 40000000 in
theorem rmz_g0 (l : Launch) (Z : State) (a0 : Array Value) (hw : ∀ d ∈ tables_1, d.before a0 Z = true) (ws : List Jvm.Cond) (aS : Addr) (kS : ClassId) (s0_ : Int64) (s1_ : Int64) (s2_ : Int64) (s3_ : Int64) (s4_ : Int64) (s5_ : Int64) (s6_ : Int64) (s7_ : Int64) (q9 : Int64) (h0 : Heap) (n0 : Nat) (Z0 : n0 ≤ h0.size) (Vs : Arv Z h0 aS kS .long (8 : Int32) [(.long s0_), (.long s1_), (.long s2_), (.long s3_), (.long s4_), (.long s5_), (.long s6_), (.long s7_)] (.long (0 : Int64))) (hlt : s0_ < q9) :
    MetFree l (⟨"java/util/Arrays", "binarySearch0", "([JIIJ)I"⟩ : MethodName) (head1 (Jvm.Cond.code (⟨"java/util/Arrays", "binarySearch0", "([JIIJ)I"⟩ : MethodName) jdk_65_method_56_code 10 (some .int) :: ws) ({ frames := 0, cells := 0, slots := 0, locals := 0 } : Room)) (fun aQ UQ => aQ = #[(.ref aS), (.int (0 : Int32)), (.int (1 : Int32)), (.long q9)] ∧ Z.Warmed39 UQ.vm ∧ UQ.heap = h0) (fun _ _ _ _ _ => True) (fun _ U o U' => ∃ v L, o = .returned v ∧ Qz_g0 Z aS kS s0_ s1_ s2_ s3_ s4_ s5_ s6_ s7_ q9 h0 n0 v U'.heap L ∧ FrameEnd U o U' L ({ frames := 0, cells := 0, slots := 0, locals := 0 } : Room).cells ({ frames := 0, cells := 0, slots := 0, locals := 0 } : Room).slots) := by
  refine MetFree.of_bodySF (plainFor_of_name pnz_g0) hisR ?_
  intro p e s m args below meth c s₁ Bd hml0 hP hK
  obtain ⟨rfl, hZ, hh⟩ := hP
  have hx := Bd.exec
  have hby := Bd.bytes
  have hml : c.maxLocals = 10 := hml0
  have hown : s.vm.findClass "java/util/Arrays" = some m.cls := findClass_of_methodNamed Bd.named
  have hnm := (name_of_methodNamed Bd.named Bd.method).1
  have X0 : Stand p l e ({ frames := 0, cells := 0, slots := 0, locals := 0 } : Room) s m #[(.ref aS), (.int (0 : Int32)), (.int (1 : Int32)), (.long q9)] below meth c s₁ [] 0 0 := Stand.of_body Bd
  have e0 : s₁.heap = h0 := by rw [← hh, Bd.state]; rfl
  have N0 := Fr.nil n0
  show OGo p e below (OPost s (Qz_g0 Z aS kS s0_ s1_ s2_ s3_ s4_ s5_ s6_ s7_ q9 h0 n0) ({ frames := 0, cells := 0, slots := 0, locals := 0 } : Room).cells ({ frames := 0, cells := 0, slots := 0, locals := 0 } : Room).slots) (s₁.setTop (entryFrame m #[(.ref aS), (.int (0 : Int32)), (.int (1 : Int32)), (.long q9)] 10))
  refine OGo.step (fun uK kK => castTop (efz_g0 m aS (0 : Int32) (1 : Int32) q9) kK) ?_
  show OGo p e below _ (s₁.setTop (mkF m 0 #[.val (.ref aS), .val (.int (0 : Int32)), .val (.int (1 : Int32)), .val (.long q9), .second, .unset, .unset, .unset, .unset, .unset] []))
  refine OGo.step (fun uK kK => XS.iloadN X0.here hx rfl (hb hby d8_0) rfl kK) ?_
  show OGo p e below _ (s₁.setTop (mkF m 1 #[.val (.ref aS), .val (.int (0 : Int32)), .val (.int (1 : Int32)), .val (.long q9), .second, .unset, .unset, .unset, .unset, .unset] [(.int (0 : Int32))]))
  refine OGo.step (fun uK kK => XS.istore X0.here hx rfl (hb hby d8_1) rfl (l' := #[.val (.ref aS), .val (.int (0 : Int32)), .val (.int (1 : Int32)), .val (.long q9), .second, .val (.int (0 : Int32)), .unset, .unset, .unset, .unset]) rfl kK) ?_
  show OGo p e below _ (s₁.setTop (mkF m 3 #[.val (.ref aS), .val (.int (0 : Int32)), .val (.int (1 : Int32)), .val (.long q9), .second, .val (.int (0 : Int32)), .unset, .unset, .unset, .unset] []))
  refine OGo.step (fun uK kK => XS.iloadN X0.here hx rfl (hb hby d8_3) rfl kK) ?_
  show OGo p e below _ (s₁.setTop (mkF m 4 #[.val (.ref aS), .val (.int (0 : Int32)), .val (.int (1 : Int32)), .val (.long q9), .second, .val (.int (0 : Int32)), .unset, .unset, .unset, .unset] [(.int (1 : Int32))]))
  refine OGo.step (fun uK kK => XS.iconst X0.here hx rfl (hb hby d8_4) kK) ?_
  show OGo p e below _ (s₁.setTop (mkF m 5 #[.val (.ref aS), .val (.int (0 : Int32)), .val (.int (1 : Int32)), .val (.long q9), .second, .val (.int (0 : Int32)), .unset, .unset, .unset, .unset] [(.int (1 : Int32)), (.int (1 : Int32))]))
  refine OGo.step (fun uK kK => XS.isub X0.here hx rfl (hb hby d8_5) rfl kK) ?_
  show OGo p e below _ (s₁.setTop (mkF m 6 #[.val (.ref aS), .val (.int (0 : Int32)), .val (.int (1 : Int32)), .val (.long q9), .second, .val (.int (0 : Int32)), .unset, .unset, .unset, .unset] [(.int ((1 : Int32) - (1 : Int32)))]))
  have ez1 : ((1 : Int32) - (1 : Int32)) = (0 : Int32) := by decide
  rw [ez1]
  show OGo p e below _ (s₁.setTop (mkF m 6 #[.val (.ref aS), .val (.int (0 : Int32)), .val (.int (1 : Int32)), .val (.long q9), .second, .val (.int (0 : Int32)), .unset, .unset, .unset, .unset] [(.int (0 : Int32))]))
  refine OGo.step (fun uK kK => XS.istore X0.here hx rfl (hb hby d8_6) rfl (l' := #[.val (.ref aS), .val (.int (0 : Int32)), .val (.int (1 : Int32)), .val (.long q9), .second, .val (.int (0 : Int32)), .val (.int (0 : Int32)), .unset, .unset, .unset]) rfl kK) ?_
  show OGo p e below _ (s₁.setTop (mkF m 8 #[.val (.ref aS), .val (.int (0 : Int32)), .val (.int (1 : Int32)), .val (.long q9), .second, .val (.int (0 : Int32)), .val (.int (0 : Int32)), .unset, .unset, .unset] []))
  refine OGo.step (fun uK kK => XS.iload X0.here hx rfl (hb hby d8_8) rfl kK) ?_
  show OGo p e below _ (s₁.setTop (mkF m 10 #[.val (.ref aS), .val (.int (0 : Int32)), .val (.int (1 : Int32)), .val (.long q9), .second, .val (.int (0 : Int32)), .val (.int (0 : Int32)), .unset, .unset, .unset] [(.int (0 : Int32))]))
  refine OGo.step (fun uK kK => XS.iload X0.here hx rfl (hb hby d8_10) rfl kK) ?_
  show OGo p e below _ (s₁.setTop (mkF m 12 #[.val (.ref aS), .val (.int (0 : Int32)), .val (.int (1 : Int32)), .val (.long q9), .second, .val (.int (0 : Int32)), .val (.int (0 : Int32)), .unset, .unset, .unset] [(.int (0 : Int32)), (.int (0 : Int32))]))
  have hc12 : ¬ ((0 : Int32) < (0 : Int32)) := by decide
  refine OGo.step (fun uK kK => XS.icmpNo X0.here hx rfl (hb hby d8_12) rfl (flt hc12).2.2.1 kK) ?_
  show OGo p e below _ (s₁.setTop (mkF m 15 #[.val (.ref aS), .val (.int (0 : Int32)), .val (.int (1 : Int32)), .val (.long q9), .second, .val (.int (0 : Int32)), .val (.int (0 : Int32)), .unset, .unset, .unset] []))
  refine OGo.step (fun uK kK => XS.iload X0.here hx rfl (hb hby d8_15) rfl kK) ?_
  show OGo p e below _ (s₁.setTop (mkF m 17 #[.val (.ref aS), .val (.int (0 : Int32)), .val (.int (1 : Int32)), .val (.long q9), .second, .val (.int (0 : Int32)), .val (.int (0 : Int32)), .unset, .unset, .unset] [(.int (0 : Int32))]))
  refine OGo.step (fun uK kK => XS.iload X0.here hx rfl (hb hby d8_17) rfl kK) ?_
  show OGo p e below _ (s₁.setTop (mkF m 19 #[.val (.ref aS), .val (.int (0 : Int32)), .val (.int (1 : Int32)), .val (.long q9), .second, .val (.int (0 : Int32)), .val (.int (0 : Int32)), .unset, .unset, .unset] [(.int (0 : Int32)), (.int (0 : Int32))]))
  refine OGo.step (fun uK kK => XS.iadd X0.here hx rfl (hb hby d8_19) rfl kK) ?_
  show OGo p e below _ (s₁.setTop (mkF m 20 #[.val (.ref aS), .val (.int (0 : Int32)), .val (.int (1 : Int32)), .val (.long q9), .second, .val (.int (0 : Int32)), .val (.int (0 : Int32)), .unset, .unset, .unset] [(.int ((0 : Int32) + (0 : Int32)))]))
  have ez2 : ((0 : Int32) + (0 : Int32)) = (0 : Int32) := by decide
  rw [ez2]
  show OGo p e below _ (s₁.setTop (mkF m 20 #[.val (.ref aS), .val (.int (0 : Int32)), .val (.int (1 : Int32)), .val (.long q9), .second, .val (.int (0 : Int32)), .val (.int (0 : Int32)), .unset, .unset, .unset] [(.int (0 : Int32))]))
  refine OGo.step (fun uK kK => XS.iconst X0.here hx rfl (hb hby d8_20) kK) ?_
  show OGo p e below _ (s₁.setTop (mkF m 21 #[.val (.ref aS), .val (.int (0 : Int32)), .val (.int (1 : Int32)), .val (.long q9), .second, .val (.int (0 : Int32)), .val (.int (0 : Int32)), .unset, .unset, .unset] [(.int (1 : Int32)), (.int (0 : Int32))]))
  refine OGo.step (fun uK kK => XS.iushr X0.here hx rfl (hb hby d8_21) rfl kK) ?_
  show OGo p e below _ (s₁.setTop (mkF m 22 #[.val (.ref aS), .val (.int (0 : Int32)), .val (.int (1 : Int32)), .val (.long q9), .second, .val (.int (0 : Int32)), .val (.int (0 : Int32)), .unset, .unset, .unset] [(.int (((0 : Int32).toUInt32 >>> ((1 : Int32) &&& 31).toUInt32).toInt32))]))
  have ez3 : (((0 : Int32).toUInt32 >>> ((1 : Int32) &&& 31).toUInt32).toInt32) = (0 : Int32) := by decide
  rw [ez3]
  show OGo p e below _ (s₁.setTop (mkF m 22 #[.val (.ref aS), .val (.int (0 : Int32)), .val (.int (1 : Int32)), .val (.long q9), .second, .val (.int (0 : Int32)), .val (.int (0 : Int32)), .unset, .unset, .unset] [(.int (0 : Int32))]))
  refine OGo.step (fun uK kK => XS.istore X0.here hx rfl (hb hby d8_22) rfl (l' := #[.val (.ref aS), .val (.int (0 : Int32)), .val (.int (1 : Int32)), .val (.long q9), .second, .val (.int (0 : Int32)), .val (.int (0 : Int32)), .val (.int (0 : Int32)), .unset, .unset]) rfl kK) ?_
  show OGo p e below _ (s₁.setTop (mkF m 24 #[.val (.ref aS), .val (.int (0 : Int32)), .val (.int (1 : Int32)), .val (.long q9), .second, .val (.int (0 : Int32)), .val (.int (0 : Int32)), .val (.int (0 : Int32)), .unset, .unset] []))
  refine OGo.step (fun uK kK => XS.aloadN X0.here hx rfl (hb hby d8_24) rfl rfl kK) ?_
  show OGo p e below _ (s₁.setTop (mkF m 25 #[.val (.ref aS), .val (.int (0 : Int32)), .val (.int (1 : Int32)), .val (.long q9), .second, .val (.int (0 : Int32)), .val (.int (0 : Int32)), .val (.int (0 : Int32)), .unset, .unset] [(.ref aS)]))
  refine OGo.step (fun uK kK => XS.iload X0.here hx rfl (hb hby d8_25) rfl kK) ?_
  show OGo p e below _ (s₁.setTop (mkF m 27 #[.val (.ref aS), .val (.int (0 : Int32)), .val (.int (1 : Int32)), .val (.long q9), .second, .val (.int (0 : Int32)), .val (.int (0 : Int32)), .val (.int (0 : Int32)), .unset, .unset] [(.int (0 : Int32)), (.ref aS)]))
  obtain ⟨cl4, Ar4, q4, S4, M4, H4, G4⟩ := id Vs
  have hin4 : ¬ ((0 : Int32) < 0 ∨ cl4.slots.size ≤ ((0 : Int32)).toNatClampNeg) := inb_of S4 ⟨by decide, by decide⟩
  have hat4 : cl4.slots[((0 : Int32)).toNatClampNeg]? = some (.long s0_) := H4.at hin4 rfl
  refine OGo.step (fun uK kK => X0.laload hx (j := (0 : Int32)) (v := (.long s0_)) (by rw [e0]; exact Ar4.1) (State.isArrayOf_alike hZ.alike Ar4.2.1) Ar4.2.2 hin4 hat4 (g := (mkF m 27 #[.val (.ref aS), .val (.int (0 : Int32)), .val (.int (1 : Int32)), .val (.long q9), .second, .val (.int (0 : Int32)), .val (.int (0 : Int32)), .val (.int (0 : Int32)), .unset, .unset] [(.int (0 : Int32)), (.ref aS)])) rfl rfl (hb hby d8_27) uK kK) ?_
  show OGo p e below _ (s₁.setTop (mkF m 28 #[.val (.ref aS), .val (.int (0 : Int32)), .val (.int (1 : Int32)), .val (.long q9), .second, .val (.int (0 : Int32)), .val (.int (0 : Int32)), .val (.int (0 : Int32)), .unset, .unset] [(.long s0_)]))
  refine OGo.step (fun uK kK => XS.lstore X0.here hx rfl (hb hby d8_28) rfl (l' := #[.val (.ref aS), .val (.int (0 : Int32)), .val (.int (1 : Int32)), .val (.long q9), .second, .val (.int (0 : Int32)), .val (.int (0 : Int32)), .val (.int (0 : Int32)), .val (.long s0_), .second]) rfl kK) ?_
  show OGo p e below _ (s₁.setTop (mkF m 30 #[.val (.ref aS), .val (.int (0 : Int32)), .val (.int (1 : Int32)), .val (.long q9), .second, .val (.int (0 : Int32)), .val (.int (0 : Int32)), .val (.int (0 : Int32)), .val (.long s0_), .second] []))
  refine OGo.step (fun uK kK => XS.lload X0.here hx rfl (hb hby d8_30) rfl kK) ?_
  show OGo p e below _ (s₁.setTop (mkF m 32 #[.val (.ref aS), .val (.int (0 : Int32)), .val (.int (1 : Int32)), .val (.long q9), .second, .val (.int (0 : Int32)), .val (.int (0 : Int32)), .val (.int (0 : Int32)), .val (.long s0_), .second] [(.long s0_)]))
  refine OGo.step (fun uK kK => XS.lloadN X0.here hx rfl (hb hby d8_32) rfl kK) ?_
  show OGo p e below _ (s₁.setTop (mkF m 33 #[.val (.ref aS), .val (.int (0 : Int32)), .val (.int (1 : Int32)), .val (.long q9), .second, .val (.int (0 : Int32)), .val (.int (0 : Int32)), .val (.int (0 : Int32)), .val (.long s0_), .second] [(.long q9), (.long s0_)]))
  refine OGo.step (fun uK kK => XS.lcmp X0.here hx rfl (hb hby d8_33) rfl kK) ?_
  show OGo p e below _ (s₁.setTop (mkF m 34 #[.val (.ref aS), .val (.int (0 : Int32)), .val (.int (1 : Int32)), .val (.long q9), .second, .val (.int (0 : Int32)), .val (.int (0 : Int32)), .val (.int (0 : Int32)), .val (.long s0_), .second] [(.int (lcmpW s0_ q9))]))
  have hc34 : s0_ < q9 := hlt
  refine OGo.step (fun uK kK => XS.ifNo X0.here hx rfl (hb hby d8_34) rfl ((if0 _ _).trans (tlt ((lw_lt _ _).mpr hc34)).2.1) kK) ?_
  show OGo p e below _ (s₁.setTop (mkF m 37 #[.val (.ref aS), .val (.int (0 : Int32)), .val (.int (1 : Int32)), .val (.long q9), .second, .val (.int (0 : Int32)), .val (.int (0 : Int32)), .val (.int (0 : Int32)), .val (.long s0_), .second] []))
  refine OGo.step (fun uK kK => XS.iload X0.here hx rfl (hb hby d8_37) rfl kK) ?_
  show OGo p e below _ (s₁.setTop (mkF m 39 #[.val (.ref aS), .val (.int (0 : Int32)), .val (.int (1 : Int32)), .val (.long q9), .second, .val (.int (0 : Int32)), .val (.int (0 : Int32)), .val (.int (0 : Int32)), .val (.long s0_), .second] [(.int (0 : Int32))]))
  refine OGo.step (fun uK kK => XS.iconst X0.here hx rfl (hb hby d8_39) kK) ?_
  show OGo p e below _ (s₁.setTop (mkF m 40 #[.val (.ref aS), .val (.int (0 : Int32)), .val (.int (1 : Int32)), .val (.long q9), .second, .val (.int (0 : Int32)), .val (.int (0 : Int32)), .val (.int (0 : Int32)), .val (.long s0_), .second] [(.int (1 : Int32)), (.int (0 : Int32))]))
  refine OGo.step (fun uK kK => XS.iadd X0.here hx rfl (hb hby d8_40) rfl kK) ?_
  show OGo p e below _ (s₁.setTop (mkF m 41 #[.val (.ref aS), .val (.int (0 : Int32)), .val (.int (1 : Int32)), .val (.long q9), .second, .val (.int (0 : Int32)), .val (.int (0 : Int32)), .val (.int (0 : Int32)), .val (.long s0_), .second] [(.int ((0 : Int32) + (1 : Int32)))]))
  have ez5 : ((0 : Int32) + (1 : Int32)) = (1 : Int32) := by decide
  rw [ez5]
  show OGo p e below _ (s₁.setTop (mkF m 41 #[.val (.ref aS), .val (.int (0 : Int32)), .val (.int (1 : Int32)), .val (.long q9), .second, .val (.int (0 : Int32)), .val (.int (0 : Int32)), .val (.int (0 : Int32)), .val (.long s0_), .second] [(.int (1 : Int32))]))
  refine OGo.step (fun uK kK => XS.istore X0.here hx rfl (hb hby d8_41) rfl (l' := #[.val (.ref aS), .val (.int (0 : Int32)), .val (.int (1 : Int32)), .val (.long q9), .second, .val (.int (1 : Int32)), .val (.int (0 : Int32)), .val (.int (0 : Int32)), .val (.long s0_), .second]) rfl kK) ?_
  show OGo p e below _ (s₁.setTop (mkF m 43 #[.val (.ref aS), .val (.int (0 : Int32)), .val (.int (1 : Int32)), .val (.long q9), .second, .val (.int (1 : Int32)), .val (.int (0 : Int32)), .val (.int (0 : Int32)), .val (.long s0_), .second] []))
  refine OGo.step (fun uK kK => XS.goto X0.here hx rfl (pc0 := 43) (pc' := 65) rfl (hb hby d8_43) (by decide) (by decide) kK) ?_
  show OGo p e below _ (s₁.setTop (mkF m 65 #[.val (.ref aS), .val (.int (0 : Int32)), .val (.int (1 : Int32)), .val (.long q9), .second, .val (.int (1 : Int32)), .val (.int (0 : Int32)), .val (.int (0 : Int32)), .val (.long s0_), .second] []))
  refine OGo.step (fun uK kK => XS.goto X0.here hx rfl (pc0 := 65) (pc' := 8) rfl (hb hby d8_65) (by decide) (by decide) kK) ?_
  show OGo p e below _ (s₁.setTop (mkF m 8 #[.val (.ref aS), .val (.int (0 : Int32)), .val (.int (1 : Int32)), .val (.long q9), .second, .val (.int (1 : Int32)), .val (.int (0 : Int32)), .val (.int (0 : Int32)), .val (.long s0_), .second] []))
  refine OGo.step (fun uK kK => XS.iload X0.here hx rfl (hb hby d8_8) rfl kK) ?_
  show OGo p e below _ (s₁.setTop (mkF m 10 #[.val (.ref aS), .val (.int (0 : Int32)), .val (.int (1 : Int32)), .val (.long q9), .second, .val (.int (1 : Int32)), .val (.int (0 : Int32)), .val (.int (0 : Int32)), .val (.long s0_), .second] [(.int (1 : Int32))]))
  refine OGo.step (fun uK kK => XS.iload X0.here hx rfl (hb hby d8_10) rfl kK) ?_
  show OGo p e below _ (s₁.setTop (mkF m 12 #[.val (.ref aS), .val (.int (0 : Int32)), .val (.int (1 : Int32)), .val (.long q9), .second, .val (.int (1 : Int32)), .val (.int (0 : Int32)), .val (.int (0 : Int32)), .val (.long s0_), .second] [(.int (0 : Int32)), (.int (1 : Int32))]))
  have hc12 : (0 : Int32) < (1 : Int32) := by decide
  refine OGo.step (fun uK kK => XS.icmpYes X0.here hx rfl (pc0 := 12) (pc' := 68) rfl (hb hby d8_12) rfl (tlt hc12).2.2.1 (by decide) (by decide) kK) ?_
  show OGo p e below _ (s₁.setTop (mkF m 68 #[.val (.ref aS), .val (.int (0 : Int32)), .val (.int (1 : Int32)), .val (.long q9), .second, .val (.int (1 : Int32)), .val (.int (0 : Int32)), .val (.int (0 : Int32)), .val (.long s0_), .second] []))
  refine OGo.step (fun uK kK => XS.iload X0.here hx rfl (hb hby d8_68) rfl kK) ?_
  show OGo p e below _ (s₁.setTop (mkF m 70 #[.val (.ref aS), .val (.int (0 : Int32)), .val (.int (1 : Int32)), .val (.long q9), .second, .val (.int (1 : Int32)), .val (.int (0 : Int32)), .val (.int (0 : Int32)), .val (.long s0_), .second] [(.int (1 : Int32))]))
  refine OGo.step (fun uK kK => XS.iconst X0.here hx rfl (hb hby d8_70) kK) ?_
  show OGo p e below _ (s₁.setTop (mkF m 71 #[.val (.ref aS), .val (.int (0 : Int32)), .val (.int (1 : Int32)), .val (.long q9), .second, .val (.int (1 : Int32)), .val (.int (0 : Int32)), .val (.int (0 : Int32)), .val (.long s0_), .second] [(.int (1 : Int32)), (.int (1 : Int32))]))
  refine OGo.step (fun uK kK => XS.iadd X0.here hx rfl (hb hby d8_71) rfl kK) ?_
  show OGo p e below _ (s₁.setTop (mkF m 72 #[.val (.ref aS), .val (.int (0 : Int32)), .val (.int (1 : Int32)), .val (.long q9), .second, .val (.int (1 : Int32)), .val (.int (0 : Int32)), .val (.int (0 : Int32)), .val (.long s0_), .second] [(.int ((1 : Int32) + (1 : Int32)))]))
  have ez6 : ((1 : Int32) + (1 : Int32)) = (2 : Int32) := by decide
  rw [ez6]
  show OGo p e below _ (s₁.setTop (mkF m 72 #[.val (.ref aS), .val (.int (0 : Int32)), .val (.int (1 : Int32)), .val (.long q9), .second, .val (.int (1 : Int32)), .val (.int (0 : Int32)), .val (.int (0 : Int32)), .val (.long s0_), .second] [(.int (2 : Int32))]))
  refine OGo.step (fun uK kK => XS.ineg X0.here hx rfl (hb hby d8_72) rfl kK) ?_
  show OGo p e below _ (s₁.setTop (mkF m 73 #[.val (.ref aS), .val (.int (0 : Int32)), .val (.int (1 : Int32)), .val (.long q9), .second, .val (.int (1 : Int32)), .val (.int (0 : Int32)), .val (.int (0 : Int32)), .val (.long s0_), .second] [(.int (-(2 : Int32)))]))
  have ez7 : (-(2 : Int32)) = (-2 : Int32) := by decide
  rw [ez7]
  show OGo p e below _ (s₁.setTop (mkF m 73 #[.val (.ref aS), .val (.int (0 : Int32)), .val (.int (1 : Int32)), .val (.long q9), .second, .val (.int (1 : Int32)), .val (.int (0 : Int32)), .val (.int (0 : Int32)), .val (.long s0_), .second] [(.int (-2 : Int32))]))
  exact OGo.retI X0 hx Bd.notSynchronized Bd.returns (hb hby d8_73) (by decide) (by decide) (by show Qz_g0 Z aS kS s0_ s1_ s2_ s3_ s4_ s5_ s6_ s7_ q9 h0 n0 _ s₁.heap _; rw [e0]; exact ⟨rfl, N0, rfl⟩)
theorem pny_g0 : plainName "java/util/Arrays" = true := by first | (simp [plainName, overriddenIn]; done) | decide +kernel
theorem pdy_g0_0 : parseMethodDescriptor "(III)V" = some ⟨[.int, .int, .int], none⟩ := by decide +kernel
theorem pdy_g0_1 : parseMethodDescriptor "([JIIJ)I" = some ⟨[(.array .long), .int, .int, .long], some .int⟩ := by decide +kernel
theorem efy_g0 (m : MethodId) (x0 : Addr) (x1 : Int32) (x2 : Int32) (x3 : Int64) : entryFrame m #[(.ref x0), (.int x1), (.int x2), (.long x3)] 5 = mkF m 0 #[.val (.ref x0), .val (.int x1), .val (.int x2), .val (.long x3), .second] [] := by first | (simp [entryFrame, mkF, argsToLocals, Value.category]; done) | rfl
def Qy_g0 (Z : State) (aS : Addr) (kS : ClassId) (s0_ : Int64) (s1_ : Int64) (s2_ : Int64) (s3_ : Int64) (s4_ : Int64) (s5_ : Int64) (s6_ : Int64) (s7_ : Int64) (q9 : Int64) (h0 : Heap) (n0 : Nat) (v : Option Value) (h : Heap) (L : List Loc) : Prop := v = some (.int (-2 : Int32)) ∧ Fr n0 L ∧ h = h0
set_option maxRecDepth 65536 in
set_option maxHeartbeats 40000000 in
theorem rmy_g0 (l : Launch) (Z : State) (a0 : Array Value) (hw : ∀ d ∈ tables_1, d.before a0 Z = true) (ws : List Jvm.Cond) (aS : Addr) (kS : ClassId) (s0_ : Int64) (s1_ : Int64) (s2_ : Int64) (s3_ : Int64) (s4_ : Int64) (s5_ : Int64) (s6_ : Int64) (s7_ : Int64) (q9 : Int64) (h0 : Heap) (n0 : Nat) (Z0 : n0 ≤ h0.size) (Vs : Arv Z h0 aS kS .long (8 : Int32) [(.long s0_), (.long s1_), (.long s2_), (.long s3_), (.long s4_), (.long s5_), (.long s6_), (.long s7_)] (.long (0 : Int64))) (hlt : s0_ < q9) :
    MetFree l (⟨"java/util/Arrays", "binarySearch", "([JIIJ)I"⟩ : MethodName) (head1 (Jvm.Cond.code (⟨"java/util/Arrays", "binarySearch", "([JIIJ)I"⟩ : MethodName) jdk_65_method_55_code 5 (some .int) :: ws) ({ frames := 1, cells := 0, slots := 0, locals := 21 } : Room)) (fun aQ UQ => aQ = #[(.ref aS), (.int (0 : Int32)), (.int (1 : Int32)), (.long q9)] ∧ Z.Warmed39 UQ.vm ∧ UQ.heap = h0) (fun _ _ _ _ _ => True) (fun _ U o U' => ∃ v L, o = .returned v ∧ Qy_g0 Z aS kS s0_ s1_ s2_ s3_ s4_ s5_ s6_ s7_ q9 h0 n0 v U'.heap L ∧ FrameEnd U o U' L ({ frames := 1, cells := 0, slots := 0, locals := 21 } : Room).cells ({ frames := 1, cells := 0, slots := 0, locals := 21 } : Room).slots) := by
  refine MetFree.of_bodySF (plainFor_of_name pny_g0) hisR ?_
  intro p e s m args below meth c s₁ Bd hml0 hP hK
  obtain ⟨rfl, hZ, hh⟩ := hP
  have hx := Bd.exec
  have hby := Bd.bytes
  have hml : c.maxLocals = 5 := hml0
  have hown : s.vm.findClass "java/util/Arrays" = some m.cls := findClass_of_methodNamed Bd.named
  have hnm := (name_of_methodNamed Bd.named Bd.method).1
  have X0 : Stand p l e ({ frames := 1, cells := 0, slots := 0, locals := 21 } : Room) s m #[(.ref aS), (.int (0 : Int32)), (.int (1 : Int32)), (.long q9)] below meth c s₁ [] 0 0 := Stand.of_body Bd
  have e0 : s₁.heap = h0 := by rw [← hh, Bd.state]; rfl
  have N0 := Fr.nil n0
  show OGo p e below (OPost s (Qy_g0 Z aS kS s0_ s1_ s2_ s3_ s4_ s5_ s6_ s7_ q9 h0 n0) ({ frames := 1, cells := 0, slots := 0, locals := 21 } : Room).cells ({ frames := 1, cells := 0, slots := 0, locals := 21 } : Room).slots) (s₁.setTop (entryFrame m #[(.ref aS), (.int (0 : Int32)), (.int (1 : Int32)), (.long q9)] 5))
  refine OGo.step (fun uK kK => castTop (efy_g0 m aS (0 : Int32) (1 : Int32) q9) kK) ?_
  show OGo p e below _ (s₁.setTop (mkF m 0 #[.val (.ref aS), .val (.int (0 : Int32)), .val (.int (1 : Int32)), .val (.long q9), .second] []))
  refine OGo.step (fun uK kK => XS.aloadN X0.here hx rfl (hb hby d6_0) rfl rfl kK) ?_
  show OGo p e below _ (s₁.setTop (mkF m 1 #[.val (.ref aS), .val (.int (0 : Int32)), .val (.int (1 : Int32)), .val (.long q9), .second] [(.ref aS)]))
  obtain ⟨cl1, Ar1, -, S1, M1, -, -⟩ := id Vs
  refine OGo.step (fun uK kK => X0.arraylength hx (by rw [e0]; exact Ar1.1) (State.isArrayOf_alike hZ.alike Ar1.2.1) (g := (mkF m 1 #[.val (.ref aS), .val (.int (0 : Int32)), .val (.int (1 : Int32)), .val (.long q9), .second] [(.ref aS)])) rfl rfl (hb hby d6_1) uK kK) ?_
  rw [len_of S1 M1]
  show OGo p e below _ (s₁.setTop (mkF m 2 #[.val (.ref aS), .val (.int (0 : Int32)), .val (.int (1 : Int32)), .val (.long q9), .second] [(.int (8 : Int32))]))
  refine OGo.step (fun uK kK => XS.iloadN X0.here hx rfl (hb hby d6_2) rfl kK) ?_
  show OGo p e below _ (s₁.setTop (mkF m 3 #[.val (.ref aS), .val (.int (0 : Int32)), .val (.int (1 : Int32)), .val (.long q9), .second] [(.int (0 : Int32)), (.int (8 : Int32))]))
  refine OGo.step (fun uK kK => XS.iloadN X0.here hx rfl (hb hby d6_3) rfl kK) ?_
  show OGo p e below _ (s₁.setTop (mkF m 4 #[.val (.ref aS), .val (.int (0 : Int32)), .val (.int (1 : Int32)), .val (.long q9), .second] [(.int (1 : Int32)), (.int (0 : Int32)), (.int (8 : Int32))]))
  obtain ⟨_, _, ⟨T2, Lq2, kq_2, nq_2⟩, -, X2, ⟨Lc2, hQ2, lq2, yq2, zq2⟩, st2⟩ := Jvm.LawKit.callS X0 hx (y := (⟨"java/util/Arrays", "rangeCheck", "(III)V"⟩ : MethodName)) hown (mvT hZ (hw _ (List.mem_of_getElem? (i := 35) rfl))) (mvT hZ (hw _ (List.mem_of_getElem? (i := 36) rfl))) (mvT hZ (hw _ (List.mem_of_getElem? (i := 33) rfl))) (mvT hZ (hw _ (List.mem_of_getElem? (i := 37) rfl))) (by decide) (backOf (W := 0) (rmrc l Z a0 hw [] (8 : Int32) (0 : Int32) (1 : Int32)  h0 n0 Z0 (by decide) (by decide) (by decide)) hZ (hw _ (List.mem_of_getElem? (i := 37) rfl)) (hw _ (List.mem_of_getElem? (i := 33) rfl)) (by decide) (by decide)) (g := (mkF m 4 #[.val (.ref aS), .val (.int (0 : Int32)), .val (.int (1 : Int32)), .val (.long q9), .second] [(.int (1 : Int32)), (.int (0 : Int32)), (.int (8 : Int32))])) rfl (by rw [hml]; rfl) (argsL := [(.int (8 : Int32)), (.int (0 : Int32)), (.int (1 : Int32))]) (rest := []) (lenOf pdy_g0_0 rfl) rfl (by show 2 * 0 + _ ≤ _; exact Nat.le_of_eq rfl) (hb hby d6_4) (fun _ _ => ⟨rfl, e0, (by decide : 0 + 0 ≤ _), (by decide : 0 + 0 ≤ _)⟩)
  dsimp only [Pt.U, Pt.locs, Pt.cells, Pt.slots] at X2 lq2 yq2 zq2 st2 hQ2
  subst lq2 yq2 zq2
  obtain ⟨rfl, Nq2, e2⟩ := hQ2
  have N2 := Fr.app N0 Nq2
  refine OGo.step (fun uK kK => st2 uK kK) ?_
  show OGo p e below _ (T2.setTop (mkF m 7 #[.val (.ref aS), .val (.int (0 : Int32)), .val (.int (1 : Int32)), .val (.long q9), .second] []))
  refine OGo.step (fun uK kK => XS.aloadN X2.here hx rfl (hb hby d6_7) rfl rfl kK) ?_
  show OGo p e below _ (T2.setTop (mkF m 8 #[.val (.ref aS), .val (.int (0 : Int32)), .val (.int (1 : Int32)), .val (.long q9), .second] [(.ref aS)]))
  refine OGo.step (fun uK kK => XS.iloadN X2.here hx rfl (hb hby d6_8) rfl kK) ?_
  show OGo p e below _ (T2.setTop (mkF m 9 #[.val (.ref aS), .val (.int (0 : Int32)), .val (.int (1 : Int32)), .val (.long q9), .second] [(.int (0 : Int32)), (.ref aS)]))
  refine OGo.step (fun uK kK => XS.iloadN X2.here hx rfl (hb hby d6_9) rfl kK) ?_
  show OGo p e below _ (T2.setTop (mkF m 10 #[.val (.ref aS), .val (.int (0 : Int32)), .val (.int (1 : Int32)), .val (.long q9), .second] [(.int (1 : Int32)), (.int (0 : Int32)), (.ref aS)]))
  refine OGo.step (fun uK kK => XS.lloadN X2.here hx rfl (hb hby d6_10) rfl kK) ?_
  show OGo p e below _ (T2.setTop (mkF m 11 #[.val (.ref aS), .val (.int (0 : Int32)), .val (.int (1 : Int32)), .val (.long q9), .second] [(.long q9), (.int (1 : Int32)), (.int (0 : Int32)), (.ref aS)]))
  obtain ⟨_, _, ⟨T3, Lq3, kq_3, nq_3⟩, -, X3, ⟨Lc3, hQ3, lq3, yq3, zq3⟩, st3⟩ := Jvm.LawKit.callS X2 hx (y := (⟨"java/util/Arrays", "binarySearch0", "([JIIJ)I"⟩ : MethodName)) hown (mvT hZ (hw _ (List.mem_of_getElem? (i := 38) rfl))) (mvT hZ (hw _ (List.mem_of_getElem? (i := 39) rfl))) (mvT hZ (hw _ (List.mem_of_getElem? (i := 33) rfl))) (mvT hZ (hw _ (List.mem_of_getElem? (i := 40) rfl))) (by decide) (backOf (W := 0) (rmz_g0 l Z a0 hw [] aS kS s0_ s1_ s2_ s3_ s4_ s5_ s6_ s7_ q9 h0 n0 Z0 Vs hlt) hZ (hw _ (List.mem_of_getElem? (i := 40) rfl)) (hw _ (List.mem_of_getElem? (i := 33) rfl)) (by decide) (by decide)) (g := (mkF m 11 #[.val (.ref aS), .val (.int (0 : Int32)), .val (.int (1 : Int32)), .val (.long q9), .second] [(.long q9), (.int (1 : Int32)), (.int (0 : Int32)), (.ref aS)])) rfl (by rw [hml]; rfl) (argsL := [(.ref aS), (.int (0 : Int32)), (.int (1 : Int32)), (.long q9)]) (rest := []) (lenOf pdy_g0_1 rfl) rfl (by show 2 * 0 + _ ≤ _; exact Nat.le_of_eq rfl) (hb hby d6_11) (fun _ _ => ⟨rfl, e2, (by decide : 0 + 0 ≤ _), (by decide : 0 + 0 ≤ _)⟩)
  dsimp only [Pt.U, Pt.locs, Pt.cells, Pt.slots] at X3 lq3 yq3 zq3 st3 hQ3
  subst lq3 yq3 zq3
  obtain ⟨rfl, Nq3, e3⟩ := hQ3
  have N3 := Fr.app N2 Nq3
  refine OGo.step (fun uK kK => st3 uK kK) ?_
  show OGo p e below _ (T3.setTop (mkF m 14 #[.val (.ref aS), .val (.int (0 : Int32)), .val (.int (1 : Int32)), .val (.long q9), .second] [(.int (-2 : Int32))]))
  exact OGo.retI X3 hx Bd.notSynchronized Bd.returns (hb hby d6_14) (by decide) (by decide) (by show Qy_g0 Z aS kS s0_ s1_ s2_ s3_ s4_ s5_ s6_ s7_ q9 h0 n0 _ T3.heap _; rw [e3]; exact ⟨rfl, N3, rfl⟩)
theorem pnx_g0 : plainName "com/example/graph_of_conflicts/graphofconflicts/engine/OpenSnapshots" = true := by first | (simp [plainName, overriddenIn]; done) | decide +kernel
theorem pdx_g0_0 : parseMethodDescriptor "([JIIJ)I" = some ⟨[(.array .long), .int, .int, .long], some .int⟩ := by decide +kernel
theorem efx_g0 (m : MethodId) (x0 : Addr) (x1 : Int64) : entryFrame m #[(.ref x0), (.long x1)] 3 = mkF m 0 #[.val (.ref x0), .val (.long x1), .second] [] := by first | (simp [entryFrame, mkF, argsToLocals, Value.category]; done) | rfl
def Qx_g0 (Z : State) (a : Addr) (aS : Addr) (kS : ClassId) (s0_ : Int64) (s1_ : Int64) (s2_ : Int64) (s3_ : Int64) (s4_ : Int64) (s5_ : Int64) (s6_ : Int64) (s7_ : Int64) (q9 : Int64) (h0 : Heap) (n0 : Nat) (v : Option Value) (h : Heap) (L : List Loc) : Prop := v = some (.int (-2 : Int32)) ∧ Fr n0 L ∧ h = h0
set_option maxRecDepth 65536 in
set_option maxHeartbeats 40000000 in
theorem rmx_g0 (l : Launch) (Z : State) (a0 : Array Value) (hw : ∀ d ∈ tables_1, d.before a0 Z = true) (ws : List Jvm.Cond) (a : Addr) (aS : Addr) (kS : ClassId) (s0_ : Int64) (s1_ : Int64) (s2_ : Int64) (s3_ : Int64) (s4_ : Int64) (s5_ : Int64) (s6_ : Int64) (s7_ : Int64) (q9 : Int64) (h0 : Heap) (n0 : Nat) (Z0 : n0 ≤ h0.size) (Fs : Fld Z h0 a "com/example/graph_of_conflicts/graphofconflicts/engine/OpenSnapshots" "snapshots" "[J" (.ref aS)) (Fn : Fld Z h0 a "com/example/graph_of_conflicts/graphofconflicts/engine/OpenSnapshots" "size" "I" (.int (1 : Int32))) (Vs : Arv Z h0 aS kS .long (8 : Int32) [(.long s0_), (.long s1_), (.long s2_), (.long s3_), (.long s4_), (.long s5_), (.long s6_), (.long s7_)] (.long (0 : Int64))) (hlt : s0_ < q9) :
    MetFree l (⟨"com/example/graph_of_conflicts/graphofconflicts/engine/OpenSnapshots", "indexOf", "(J)I"⟩ : MethodName) (head1 (Jvm.Cond.code (⟨"com/example/graph_of_conflicts/graphofconflicts/engine/OpenSnapshots", "indexOf", "(J)I"⟩ : MethodName) prog_55_method_6_code 3 (some .int) :: ws) ({ frames := 2, cells := 0, slots := 0, locals := 37 } : Room)) (fun aQ UQ => aQ = #[(.ref a), (.long q9)] ∧ Z.Warmed39 UQ.vm ∧ UQ.heap = h0) (fun _ _ _ _ _ => True) (fun _ U o U' => ∃ v L, o = .returned v ∧ Qx_g0 Z a aS kS s0_ s1_ s2_ s3_ s4_ s5_ s6_ s7_ q9 h0 n0 v U'.heap L ∧ FrameEnd U o U' L ({ frames := 2, cells := 0, slots := 0, locals := 37 } : Room).cells ({ frames := 2, cells := 0, slots := 0, locals := 37 } : Room).slots) := by
  refine MetFree.of_bodySF (plainFor_of_name pnx_g0) hisR ?_
  intro p e s m args below meth c s₁ Bd hml0 hP hK
  obtain ⟨rfl, hZ, hh⟩ := hP
  have hx := Bd.exec
  have hby := Bd.bytes
  have hml : c.maxLocals = 3 := hml0
  have hown : s.vm.findClass "com/example/graph_of_conflicts/graphofconflicts/engine/OpenSnapshots" = some m.cls := findClass_of_methodNamed Bd.named
  have hnm := (name_of_methodNamed Bd.named Bd.method).1
  have X0 : Stand p l e ({ frames := 2, cells := 0, slots := 0, locals := 37 } : Room) s m #[(.ref a), (.long q9)] below meth c s₁ [] 0 0 := Stand.of_body Bd
  have e0 : s₁.heap = h0 := by rw [← hh, Bd.state]; rfl
  have N0 := Fr.nil n0
  show OGo p e below (OPost s (Qx_g0 Z a aS kS s0_ s1_ s2_ s3_ s4_ s5_ s6_ s7_ q9 h0 n0) ({ frames := 2, cells := 0, slots := 0, locals := 37 } : Room).cells ({ frames := 2, cells := 0, slots := 0, locals := 37 } : Room).slots) (s₁.setTop (entryFrame m #[(.ref a), (.long q9)] 3))
  refine OGo.step (fun uK kK => castTop (efx_g0 m a q9) kK) ?_
  show OGo p e below _ (s₁.setTop (mkF m 0 #[.val (.ref a), .val (.long q9), .second] []))
  refine OGo.step (fun uK kK => XS.aloadN X0.here hx rfl (hb hby d5_0) rfl rfl kK) ?_
  show OGo p e below _ (s₁.setTop (mkF m 1 #[.val (.ref a), .val (.long q9), .second] [(.ref a)]))
  obtain ⟨T1, X1, e1, st1⟩ := getF X0 hx hZ hown (host := "") (Or.inl (hw _ (List.mem_of_getElem? (i := 15) rfl))) Via.refl e0 Fs (g := (mkF m 1 #[.val (.ref a), .val (.long q9), .second] [(.ref a)])) rfl rfl (hb hby d5_1)
  refine OGo.step (fun uK kK => st1 uK kK) ?_
  show OGo p e below _ (T1.setTop (mkF m 4 #[.val (.ref a), .val (.long q9), .second] [(.ref aS)]))
  refine OGo.step (fun uK kK => XS.iconst X1.here hx rfl (hb hby d5_4) kK) ?_
  show OGo p e below _ (T1.setTop (mkF m 5 #[.val (.ref a), .val (.long q9), .second] [(.int (0 : Int32)), (.ref aS)]))
  refine OGo.step (fun uK kK => XS.aloadN X1.here hx rfl (hb hby d5_5) rfl rfl kK) ?_
  show OGo p e below _ (T1.setTop (mkF m 6 #[.val (.ref a), .val (.long q9), .second] [(.ref a), (.int (0 : Int32)), (.ref aS)]))
  obtain ⟨T2, X2, e2, st2⟩ := getF X1 hx hZ hown (host := "") (Or.inl (hw _ (List.mem_of_getElem? (i := 29) rfl))) Via.refl e1 Fn (g := (mkF m 6 #[.val (.ref a), .val (.long q9), .second] [(.ref a), (.int (0 : Int32)), (.ref aS)])) rfl rfl (hb hby d5_6)
  refine OGo.step (fun uK kK => st2 uK kK) ?_
  show OGo p e below _ (T2.setTop (mkF m 9 #[.val (.ref a), .val (.long q9), .second] [(.int (1 : Int32)), (.int (0 : Int32)), (.ref aS)]))
  refine OGo.step (fun uK kK => XS.lloadN X2.here hx rfl (hb hby d5_9) rfl kK) ?_
  show OGo p e below _ (T2.setTop (mkF m 10 #[.val (.ref a), .val (.long q9), .second] [(.long q9), (.int (1 : Int32)), (.int (0 : Int32)), (.ref aS)]))
  obtain ⟨_, _, ⟨T3, Lq3, kq_3, nq_3⟩, -, X3, ⟨Lc3, hQ3, lq3, yq3, zq3⟩, st3⟩ := Jvm.LawKit.callS X2 hx (y := (⟨"java/util/Arrays", "binarySearch", "([JIIJ)I"⟩ : MethodName)) hown (mvT hZ (hw _ (List.mem_of_getElem? (i := 31) rfl))) (mvT hZ (hw _ (List.mem_of_getElem? (i := 32) rfl))) (mvT hZ (hw _ (List.mem_of_getElem? (i := 33) rfl))) (mvT hZ (hw _ (List.mem_of_getElem? (i := 34) rfl))) (by decide) (backOf (W := 0) (rmy_g0 l Z a0 hw [] aS kS s0_ s1_ s2_ s3_ s4_ s5_ s6_ s7_ q9 h0 n0 Z0 Vs hlt) hZ (hw _ (List.mem_of_getElem? (i := 34) rfl)) (hw _ (List.mem_of_getElem? (i := 33) rfl)) (by decide) (by decide)) (g := (mkF m 10 #[.val (.ref a), .val (.long q9), .second] [(.long q9), (.int (1 : Int32)), (.int (0 : Int32)), (.ref aS)])) rfl (by rw [hml]; rfl) (argsL := [(.ref aS), (.int (0 : Int32)), (.int (1 : Int32)), (.long q9)]) (rest := []) (lenOf pdx_g0_0 rfl) rfl (by show 2 * 0 + _ ≤ _; exact Nat.le_of_eq rfl) (hb hby d5_10) (fun _ _ => ⟨rfl, e2, (by decide : 0 + 0 ≤ _), (by decide : 0 + 0 ≤ _)⟩)
  dsimp only [Pt.U, Pt.locs, Pt.cells, Pt.slots] at X3 lq3 yq3 zq3 st3 hQ3
  subst lq3 yq3 zq3
  obtain ⟨rfl, Nq3, e3⟩ := hQ3
  have N3 := Fr.app N0 Nq3
  refine OGo.step (fun uK kK => st3 uK kK) ?_
  show OGo p e below _ (T3.setTop (mkF m 13 #[.val (.ref a), .val (.long q9), .second] [(.int (-2 : Int32))]))
  exact OGo.retI X3 hx Bd.notSynchronized Bd.returns (hb hby d5_13) (by decide) (by decide) (by show Qx_g0 Z a aS kS s0_ s1_ s2_ s3_ s4_ s5_ s6_ s7_ q9 h0 n0 _ T3.heap _; rw [e3]; exact ⟨rfl, N3, rfl⟩)
theorem pnz_t0 : plainName "java/util/Arrays" = true := by first | (simp [plainName, overriddenIn]; done) | decide +kernel
theorem efz_t0 (m : MethodId) (x0 : Addr) (x1 : Int32) (x2 : Int32) (x3 : Int64) : entryFrame m #[(.ref x0), (.int x1), (.int x2), (.long x3)] 10 = mkF m 0 #[.val (.ref x0), .val (.int x1), .val (.int x2), .val (.long x3), .second, .unset, .unset, .unset, .unset, .unset] [] := by first | (simp [entryFrame, mkF, argsToLocals, Value.category]; done) | rfl
def Qz_t0 (Z : State) (aS : Addr) (kS : ClassId) (s0_ : Int64) (s1_ : Int64) (s2_ : Int64) (s3_ : Int64) (s4_ : Int64) (s5_ : Int64) (s6_ : Int64) (s7_ : Int64) (h0 : Heap) (n0 : Nat) (v : Option Value) (h : Heap) (L : List Loc) : Prop := v = some (.int (0 : Int32)) ∧ Fr n0 L ∧ h = h0
set_option maxRecDepth 65536 in
set_option maxHeartbeats 40000000 in
theorem rmz_t0 (l : Launch) (Z : State) (a0 : Array Value) (hw : ∀ d ∈ tables_1, d.before a0 Z = true) (ws : List Jvm.Cond) (aS : Addr) (kS : ClassId) (s0_ : Int64) (s1_ : Int64) (s2_ : Int64) (s3_ : Int64) (s4_ : Int64) (s5_ : Int64) (s6_ : Int64) (s7_ : Int64) (h0 : Heap) (n0 : Nat) (Z0 : n0 ≤ h0.size) (Vs : Arv Z h0 aS kS .long (8 : Int32) [(.long s0_), (.long s1_), (.long s2_), (.long s3_), (.long s4_), (.long s5_), (.long s6_), (.long s7_)] (.long (0 : Int64))) (hlt : s0_ < s1_) :
    MetFree l (⟨"java/util/Arrays", "binarySearch0", "([JIIJ)I"⟩ : MethodName) (head1 (Jvm.Cond.code (⟨"java/util/Arrays", "binarySearch0", "([JIIJ)I"⟩ : MethodName) jdk_65_method_56_code 10 (some .int) :: ws) ({ frames := 0, cells := 0, slots := 0, locals := 0 } : Room)) (fun aQ UQ => aQ = #[(.ref aS), (.int (0 : Int32)), (.int (2 : Int32)), (.long s0_)] ∧ Z.Warmed39 UQ.vm ∧ UQ.heap = h0) (fun _ _ _ _ _ => True) (fun _ U o U' => ∃ v L, o = .returned v ∧ Qz_t0 Z aS kS s0_ s1_ s2_ s3_ s4_ s5_ s6_ s7_ h0 n0 v U'.heap L ∧ FrameEnd U o U' L ({ frames := 0, cells := 0, slots := 0, locals := 0 } : Room).cells ({ frames := 0, cells := 0, slots := 0, locals := 0 } : Room).slots) := by
  refine MetFree.of_bodySF (plainFor_of_name pnz_t0) hisR ?_
  intro p e s m args below meth c s₁ Bd hml0 hP hK
  obtain ⟨rfl, hZ, hh⟩ := hP
  have hx := Bd.exec
  have hby := Bd.bytes
  have hml : c.maxLocals = 10 := hml0
  have hown : s.vm.findClass "java/util/Arrays" = some m.cls := findClass_of_methodNamed Bd.named
  have hnm := (name_of_methodNamed Bd.named Bd.method).1
  have X0 : Stand p l e ({ frames := 0, cells := 0, slots := 0, locals := 0 } : Room) s m #[(.ref aS), (.int (0 : Int32)), (.int (2 : Int32)), (.long s0_)] below meth c s₁ [] 0 0 := Stand.of_body Bd
  have e0 : s₁.heap = h0 := by rw [← hh, Bd.state]; rfl
  have N0 := Fr.nil n0
  show OGo p e below (OPost s (Qz_t0 Z aS kS s0_ s1_ s2_ s3_ s4_ s5_ s6_ s7_ h0 n0) ({ frames := 0, cells := 0, slots := 0, locals := 0 } : Room).cells ({ frames := 0, cells := 0, slots := 0, locals := 0 } : Room).slots) (s₁.setTop (entryFrame m #[(.ref aS), (.int (0 : Int32)), (.int (2 : Int32)), (.long s0_)] 10))
  refine OGo.step (fun uK kK => castTop (efz_t0 m aS (0 : Int32) (2 : Int32) s0_) kK) ?_
  show OGo p e below _ (s₁.setTop (mkF m 0 #[.val (.ref aS), .val (.int (0 : Int32)), .val (.int (2 : Int32)), .val (.long s0_), .second, .unset, .unset, .unset, .unset, .unset] []))
  refine OGo.step (fun uK kK => XS.iloadN X0.here hx rfl (hb hby d8_0) rfl kK) ?_
  show OGo p e below _ (s₁.setTop (mkF m 1 #[.val (.ref aS), .val (.int (0 : Int32)), .val (.int (2 : Int32)), .val (.long s0_), .second, .unset, .unset, .unset, .unset, .unset] [(.int (0 : Int32))]))
  refine OGo.step (fun uK kK => XS.istore X0.here hx rfl (hb hby d8_1) rfl (l' := #[.val (.ref aS), .val (.int (0 : Int32)), .val (.int (2 : Int32)), .val (.long s0_), .second, .val (.int (0 : Int32)), .unset, .unset, .unset, .unset]) rfl kK) ?_
  show OGo p e below _ (s₁.setTop (mkF m 3 #[.val (.ref aS), .val (.int (0 : Int32)), .val (.int (2 : Int32)), .val (.long s0_), .second, .val (.int (0 : Int32)), .unset, .unset, .unset, .unset] []))
  refine OGo.step (fun uK kK => XS.iloadN X0.here hx rfl (hb hby d8_3) rfl kK) ?_
  show OGo p e below _ (s₁.setTop (mkF m 4 #[.val (.ref aS), .val (.int (0 : Int32)), .val (.int (2 : Int32)), .val (.long s0_), .second, .val (.int (0 : Int32)), .unset, .unset, .unset, .unset] [(.int (2 : Int32))]))
  refine OGo.step (fun uK kK => XS.iconst X0.here hx rfl (hb hby d8_4) kK) ?_
  show OGo p e below _ (s₁.setTop (mkF m 5 #[.val (.ref aS), .val (.int (0 : Int32)), .val (.int (2 : Int32)), .val (.long s0_), .second, .val (.int (0 : Int32)), .unset, .unset, .unset, .unset] [(.int (1 : Int32)), (.int (2 : Int32))]))
  refine OGo.step (fun uK kK => XS.isub X0.here hx rfl (hb hby d8_5) rfl kK) ?_
  show OGo p e below _ (s₁.setTop (mkF m 6 #[.val (.ref aS), .val (.int (0 : Int32)), .val (.int (2 : Int32)), .val (.long s0_), .second, .val (.int (0 : Int32)), .unset, .unset, .unset, .unset] [(.int ((2 : Int32) - (1 : Int32)))]))
  have ez1 : ((2 : Int32) - (1 : Int32)) = (1 : Int32) := by decide
  rw [ez1]
  show OGo p e below _ (s₁.setTop (mkF m 6 #[.val (.ref aS), .val (.int (0 : Int32)), .val (.int (2 : Int32)), .val (.long s0_), .second, .val (.int (0 : Int32)), .unset, .unset, .unset, .unset] [(.int (1 : Int32))]))
  refine OGo.step (fun uK kK => XS.istore X0.here hx rfl (hb hby d8_6) rfl (l' := #[.val (.ref aS), .val (.int (0 : Int32)), .val (.int (2 : Int32)), .val (.long s0_), .second, .val (.int (0 : Int32)), .val (.int (1 : Int32)), .unset, .unset, .unset]) rfl kK) ?_
  show OGo p e below _ (s₁.setTop (mkF m 8 #[.val (.ref aS), .val (.int (0 : Int32)), .val (.int (2 : Int32)), .val (.long s0_), .second, .val (.int (0 : Int32)), .val (.int (1 : Int32)), .unset, .unset, .unset] []))
  refine OGo.step (fun uK kK => XS.iload X0.here hx rfl (hb hby d8_8) rfl kK) ?_
  show OGo p e below _ (s₁.setTop (mkF m 10 #[.val (.ref aS), .val (.int (0 : Int32)), .val (.int (2 : Int32)), .val (.long s0_), .second, .val (.int (0 : Int32)), .val (.int (1 : Int32)), .unset, .unset, .unset] [(.int (0 : Int32))]))
  refine OGo.step (fun uK kK => XS.iload X0.here hx rfl (hb hby d8_10) rfl kK) ?_
  show OGo p e below _ (s₁.setTop (mkF m 12 #[.val (.ref aS), .val (.int (0 : Int32)), .val (.int (2 : Int32)), .val (.long s0_), .second, .val (.int (0 : Int32)), .val (.int (1 : Int32)), .unset, .unset, .unset] [(.int (1 : Int32)), (.int (0 : Int32))]))
  have hc12 : ¬ ((1 : Int32) < (0 : Int32)) := by decide
  refine OGo.step (fun uK kK => XS.icmpNo X0.here hx rfl (hb hby d8_12) rfl (flt hc12).2.2.1 kK) ?_
  show OGo p e below _ (s₁.setTop (mkF m 15 #[.val (.ref aS), .val (.int (0 : Int32)), .val (.int (2 : Int32)), .val (.long s0_), .second, .val (.int (0 : Int32)), .val (.int (1 : Int32)), .unset, .unset, .unset] []))
  refine OGo.step (fun uK kK => XS.iload X0.here hx rfl (hb hby d8_15) rfl kK) ?_
  show OGo p e below _ (s₁.setTop (mkF m 17 #[.val (.ref aS), .val (.int (0 : Int32)), .val (.int (2 : Int32)), .val (.long s0_), .second, .val (.int (0 : Int32)), .val (.int (1 : Int32)), .unset, .unset, .unset] [(.int (0 : Int32))]))
  refine OGo.step (fun uK kK => XS.iload X0.here hx rfl (hb hby d8_17) rfl kK) ?_
  show OGo p e below _ (s₁.setTop (mkF m 19 #[.val (.ref aS), .val (.int (0 : Int32)), .val (.int (2 : Int32)), .val (.long s0_), .second, .val (.int (0 : Int32)), .val (.int (1 : Int32)), .unset, .unset, .unset] [(.int (1 : Int32)), (.int (0 : Int32))]))
  refine OGo.step (fun uK kK => XS.iadd X0.here hx rfl (hb hby d8_19) rfl kK) ?_
  show OGo p e below _ (s₁.setTop (mkF m 20 #[.val (.ref aS), .val (.int (0 : Int32)), .val (.int (2 : Int32)), .val (.long s0_), .second, .val (.int (0 : Int32)), .val (.int (1 : Int32)), .unset, .unset, .unset] [(.int ((0 : Int32) + (1 : Int32)))]))
  have ez2 : ((0 : Int32) + (1 : Int32)) = (1 : Int32) := by decide
  rw [ez2]
  show OGo p e below _ (s₁.setTop (mkF m 20 #[.val (.ref aS), .val (.int (0 : Int32)), .val (.int (2 : Int32)), .val (.long s0_), .second, .val (.int (0 : Int32)), .val (.int (1 : Int32)), .unset, .unset, .unset] [(.int (1 : Int32))]))
  refine OGo.step (fun uK kK => XS.iconst X0.here hx rfl (hb hby d8_20) kK) ?_
  show OGo p e below _ (s₁.setTop (mkF m 21 #[.val (.ref aS), .val (.int (0 : Int32)), .val (.int (2 : Int32)), .val (.long s0_), .second, .val (.int (0 : Int32)), .val (.int (1 : Int32)), .unset, .unset, .unset] [(.int (1 : Int32)), (.int (1 : Int32))]))
  refine OGo.step (fun uK kK => XS.iushr X0.here hx rfl (hb hby d8_21) rfl kK) ?_
  show OGo p e below _ (s₁.setTop (mkF m 22 #[.val (.ref aS), .val (.int (0 : Int32)), .val (.int (2 : Int32)), .val (.long s0_), .second, .val (.int (0 : Int32)), .val (.int (1 : Int32)), .unset, .unset, .unset] [(.int (((1 : Int32).toUInt32 >>> ((1 : Int32) &&& 31).toUInt32).toInt32))]))
  have ez3 : (((1 : Int32).toUInt32 >>> ((1 : Int32) &&& 31).toUInt32).toInt32) = (0 : Int32) := by decide
  rw [ez3]
  show OGo p e below _ (s₁.setTop (mkF m 22 #[.val (.ref aS), .val (.int (0 : Int32)), .val (.int (2 : Int32)), .val (.long s0_), .second, .val (.int (0 : Int32)), .val (.int (1 : Int32)), .unset, .unset, .unset] [(.int (0 : Int32))]))
  refine OGo.step (fun uK kK => XS.istore X0.here hx rfl (hb hby d8_22) rfl (l' := #[.val (.ref aS), .val (.int (0 : Int32)), .val (.int (2 : Int32)), .val (.long s0_), .second, .val (.int (0 : Int32)), .val (.int (1 : Int32)), .val (.int (0 : Int32)), .unset, .unset]) rfl kK) ?_
  show OGo p e below _ (s₁.setTop (mkF m 24 #[.val (.ref aS), .val (.int (0 : Int32)), .val (.int (2 : Int32)), .val (.long s0_), .second, .val (.int (0 : Int32)), .val (.int (1 : Int32)), .val (.int (0 : Int32)), .unset, .unset] []))
  refine OGo.step (fun uK kK => XS.aloadN X0.here hx rfl (hb hby d8_24) rfl rfl kK) ?_
  show OGo p e below _ (s₁.setTop (mkF m 25 #[.val (.ref aS), .val (.int (0 : Int32)), .val (.int (2 : Int32)), .val (.long s0_), .second, .val (.int (0 : Int32)), .val (.int (1 : Int32)), .val (.int (0 : Int32)), .unset, .unset] [(.ref aS)]))
  refine OGo.step (fun uK kK => XS.iload X0.here hx rfl (hb hby d8_25) rfl kK) ?_
  show OGo p e below _ (s₁.setTop (mkF m 27 #[.val (.ref aS), .val (.int (0 : Int32)), .val (.int (2 : Int32)), .val (.long s0_), .second, .val (.int (0 : Int32)), .val (.int (1 : Int32)), .val (.int (0 : Int32)), .unset, .unset] [(.int (0 : Int32)), (.ref aS)]))
  obtain ⟨cl4, Ar4, q4, S4, M4, H4, G4⟩ := id Vs
  have hin4 : ¬ ((0 : Int32) < 0 ∨ cl4.slots.size ≤ ((0 : Int32)).toNatClampNeg) := inb_of S4 ⟨by decide, by decide⟩
  have hat4 : cl4.slots[((0 : Int32)).toNatClampNeg]? = some (.long s0_) := H4.at hin4 rfl
  refine OGo.step (fun uK kK => X0.laload hx (j := (0 : Int32)) (v := (.long s0_)) (by rw [e0]; exact Ar4.1) (State.isArrayOf_alike hZ.alike Ar4.2.1) Ar4.2.2 hin4 hat4 (g := (mkF m 27 #[.val (.ref aS), .val (.int (0 : Int32)), .val (.int (2 : Int32)), .val (.long s0_), .second, .val (.int (0 : Int32)), .val (.int (1 : Int32)), .val (.int (0 : Int32)), .unset, .unset] [(.int (0 : Int32)), (.ref aS)])) rfl rfl (hb hby d8_27) uK kK) ?_
  show OGo p e below _ (s₁.setTop (mkF m 28 #[.val (.ref aS), .val (.int (0 : Int32)), .val (.int (2 : Int32)), .val (.long s0_), .second, .val (.int (0 : Int32)), .val (.int (1 : Int32)), .val (.int (0 : Int32)), .unset, .unset] [(.long s0_)]))
  refine OGo.step (fun uK kK => XS.lstore X0.here hx rfl (hb hby d8_28) rfl (l' := #[.val (.ref aS), .val (.int (0 : Int32)), .val (.int (2 : Int32)), .val (.long s0_), .second, .val (.int (0 : Int32)), .val (.int (1 : Int32)), .val (.int (0 : Int32)), .val (.long s0_), .second]) rfl kK) ?_
  show OGo p e below _ (s₁.setTop (mkF m 30 #[.val (.ref aS), .val (.int (0 : Int32)), .val (.int (2 : Int32)), .val (.long s0_), .second, .val (.int (0 : Int32)), .val (.int (1 : Int32)), .val (.int (0 : Int32)), .val (.long s0_), .second] []))
  refine OGo.step (fun uK kK => XS.lload X0.here hx rfl (hb hby d8_30) rfl kK) ?_
  show OGo p e below _ (s₁.setTop (mkF m 32 #[.val (.ref aS), .val (.int (0 : Int32)), .val (.int (2 : Int32)), .val (.long s0_), .second, .val (.int (0 : Int32)), .val (.int (1 : Int32)), .val (.int (0 : Int32)), .val (.long s0_), .second] [(.long s0_)]))
  refine OGo.step (fun uK kK => XS.lloadN X0.here hx rfl (hb hby d8_32) rfl kK) ?_
  show OGo p e below _ (s₁.setTop (mkF m 33 #[.val (.ref aS), .val (.int (0 : Int32)), .val (.int (2 : Int32)), .val (.long s0_), .second, .val (.int (0 : Int32)), .val (.int (1 : Int32)), .val (.int (0 : Int32)), .val (.long s0_), .second] [(.long s0_), (.long s0_)]))
  refine OGo.step (fun uK kK => XS.lcmp X0.here hx rfl (hb hby d8_33) rfl kK) ?_
  show OGo p e below _ (s₁.setTop (mkF m 34 #[.val (.ref aS), .val (.int (0 : Int32)), .val (.int (2 : Int32)), .val (.long s0_), .second, .val (.int (0 : Int32)), .val (.int (1 : Int32)), .val (.int (0 : Int32)), .val (.long s0_), .second] [(.int (lcmpW s0_ s0_))]))
  have hc34 : ¬ (s0_ < s0_) := own_lirr _
  refine OGo.step (fun uK kK => XS.ifYes X0.here hx rfl (pc0 := 34) (pc' := 46) rfl (hb hby d8_34) rfl ((if0 _ _).trans (flt (fun q => hc34 ((lw_lt _ _).mp q))).2.1) (by decide) (by decide) kK) ?_
  show OGo p e below _ (s₁.setTop (mkF m 46 #[.val (.ref aS), .val (.int (0 : Int32)), .val (.int (2 : Int32)), .val (.long s0_), .second, .val (.int (0 : Int32)), .val (.int (1 : Int32)), .val (.int (0 : Int32)), .val (.long s0_), .second] []))
  refine OGo.step (fun uK kK => XS.lload X0.here hx rfl (hb hby d8_46) rfl kK) ?_
  show OGo p e below _ (s₁.setTop (mkF m 48 #[.val (.ref aS), .val (.int (0 : Int32)), .val (.int (2 : Int32)), .val (.long s0_), .second, .val (.int (0 : Int32)), .val (.int (1 : Int32)), .val (.int (0 : Int32)), .val (.long s0_), .second] [(.long s0_)]))
  refine OGo.step (fun uK kK => XS.lloadN X0.here hx rfl (hb hby d8_48) rfl kK) ?_
  show OGo p e below _ (s₁.setTop (mkF m 49 #[.val (.ref aS), .val (.int (0 : Int32)), .val (.int (2 : Int32)), .val (.long s0_), .second, .val (.int (0 : Int32)), .val (.int (1 : Int32)), .val (.int (0 : Int32)), .val (.long s0_), .second] [(.long s0_), (.long s0_)]))
  refine OGo.step (fun uK kK => XS.lcmp X0.here hx rfl (hb hby d8_49) rfl kK) ?_
  show OGo p e below _ (s₁.setTop (mkF m 50 #[.val (.ref aS), .val (.int (0 : Int32)), .val (.int (2 : Int32)), .val (.long s0_), .second, .val (.int (0 : Int32)), .val (.int (1 : Int32)), .val (.int (0 : Int32)), .val (.long s0_), .second] [(.int (lcmpW s0_ s0_))]))
  have hc50 : ¬ (s0_ < s0_) := own_lirr _
  refine OGo.step (fun uK kK => XS.ifYes X0.here hx rfl (pc0 := 50) (pc' := 62) rfl (hb hby d8_50) rfl ((if0 _ _).trans (flt (fun q => hc50 ((lw_gt _ _).mp q))).2.2.2) (by decide) (by decide) kK) ?_
  show OGo p e below _ (s₁.setTop (mkF m 62 #[.val (.ref aS), .val (.int (0 : Int32)), .val (.int (2 : Int32)), .val (.long s0_), .second, .val (.int (0 : Int32)), .val (.int (1 : Int32)), .val (.int (0 : Int32)), .val (.long s0_), .second] []))
  refine OGo.step (fun uK kK => XS.iload X0.here hx rfl (hb hby d8_62) rfl kK) ?_
  show OGo p e below _ (s₁.setTop (mkF m 64 #[.val (.ref aS), .val (.int (0 : Int32)), .val (.int (2 : Int32)), .val (.long s0_), .second, .val (.int (0 : Int32)), .val (.int (1 : Int32)), .val (.int (0 : Int32)), .val (.long s0_), .second] [(.int (0 : Int32))]))
  exact OGo.retI X0 hx Bd.notSynchronized Bd.returns (hb hby d8_64) (by decide) (by decide) (by show Qz_t0 Z aS kS s0_ s1_ s2_ s3_ s4_ s5_ s6_ s7_ h0 n0 _ s₁.heap _; rw [e0]; exact ⟨rfl, N0, rfl⟩)
theorem pny_t0 : plainName "java/util/Arrays" = true := by first | (simp [plainName, overriddenIn]; done) | decide +kernel
theorem pdy_t0_0 : parseMethodDescriptor "(III)V" = some ⟨[.int, .int, .int], none⟩ := by decide +kernel
theorem pdy_t0_1 : parseMethodDescriptor "([JIIJ)I" = some ⟨[(.array .long), .int, .int, .long], some .int⟩ := by decide +kernel
theorem efy_t0 (m : MethodId) (x0 : Addr) (x1 : Int32) (x2 : Int32) (x3 : Int64) : entryFrame m #[(.ref x0), (.int x1), (.int x2), (.long x3)] 5 = mkF m 0 #[.val (.ref x0), .val (.int x1), .val (.int x2), .val (.long x3), .second] [] := by first | (simp [entryFrame, mkF, argsToLocals, Value.category]; done) | rfl
def Qy_t0 (Z : State) (aS : Addr) (kS : ClassId) (s0_ : Int64) (s1_ : Int64) (s2_ : Int64) (s3_ : Int64) (s4_ : Int64) (s5_ : Int64) (s6_ : Int64) (s7_ : Int64) (h0 : Heap) (n0 : Nat) (v : Option Value) (h : Heap) (L : List Loc) : Prop := v = some (.int (0 : Int32)) ∧ Fr n0 L ∧ h = h0
set_option maxRecDepth 65536 in
set_option maxHeartbeats 40000000 in
theorem rmy_t0 (l : Launch) (Z : State) (a0 : Array Value) (hw : ∀ d ∈ tables_1, d.before a0 Z = true) (ws : List Jvm.Cond) (aS : Addr) (kS : ClassId) (s0_ : Int64) (s1_ : Int64) (s2_ : Int64) (s3_ : Int64) (s4_ : Int64) (s5_ : Int64) (s6_ : Int64) (s7_ : Int64) (h0 : Heap) (n0 : Nat) (Z0 : n0 ≤ h0.size) (Vs : Arv Z h0 aS kS .long (8 : Int32) [(.long s0_), (.long s1_), (.long s2_), (.long s3_), (.long s4_), (.long s5_), (.long s6_), (.long s7_)] (.long (0 : Int64))) (hlt : s0_ < s1_) :
    MetFree l (⟨"java/util/Arrays", "binarySearch", "([JIIJ)I"⟩ : MethodName) (head1 (Jvm.Cond.code (⟨"java/util/Arrays", "binarySearch", "([JIIJ)I"⟩ : MethodName) jdk_65_method_55_code 5 (some .int) :: ws) ({ frames := 1, cells := 0, slots := 0, locals := 21 } : Room)) (fun aQ UQ => aQ = #[(.ref aS), (.int (0 : Int32)), (.int (2 : Int32)), (.long s0_)] ∧ Z.Warmed39 UQ.vm ∧ UQ.heap = h0) (fun _ _ _ _ _ => True) (fun _ U o U' => ∃ v L, o = .returned v ∧ Qy_t0 Z aS kS s0_ s1_ s2_ s3_ s4_ s5_ s6_ s7_ h0 n0 v U'.heap L ∧ FrameEnd U o U' L ({ frames := 1, cells := 0, slots := 0, locals := 21 } : Room).cells ({ frames := 1, cells := 0, slots := 0, locals := 21 } : Room).slots) := by
  refine MetFree.of_bodySF (plainFor_of_name pny_t0) hisR ?_
  intro p e s m args below meth c s₁ Bd hml0 hP hK
  obtain ⟨rfl, hZ, hh⟩ := hP
  have hx := Bd.exec
  have hby := Bd.bytes
  have hml : c.maxLocals = 5 := hml0
  have hown : s.vm.findClass "java/util/Arrays" = some m.cls := findClass_of_methodNamed Bd.named
  have hnm := (name_of_methodNamed Bd.named Bd.method).1
  have X0 : Stand p l e ({ frames := 1, cells := 0, slots := 0, locals := 21 } : Room) s m #[(.ref aS), (.int (0 : Int32)), (.int (2 : Int32)), (.long s0_)] below meth c s₁ [] 0 0 := Stand.of_body Bd
  have e0 : s₁.heap = h0 := by rw [← hh, Bd.state]; rfl
  have N0 := Fr.nil n0
  show OGo p e below (OPost s (Qy_t0 Z aS kS s0_ s1_ s2_ s3_ s4_ s5_ s6_ s7_ h0 n0) ({ frames := 1, cells := 0, slots := 0, locals := 21 } : Room).cells ({ frames := 1, cells := 0, slots := 0, locals := 21 } : Room).slots) (s₁.setTop (entryFrame m #[(.ref aS), (.int (0 : Int32)), (.int (2 : Int32)), (.long s0_)] 5))
  refine OGo.step (fun uK kK => castTop (efy_t0 m aS (0 : Int32) (2 : Int32) s0_) kK) ?_
  show OGo p e below _ (s₁.setTop (mkF m 0 #[.val (.ref aS), .val (.int (0 : Int32)), .val (.int (2 : Int32)), .val (.long s0_), .second] []))
  refine OGo.step (fun uK kK => XS.aloadN X0.here hx rfl (hb hby d6_0) rfl rfl kK) ?_
  show OGo p e below _ (s₁.setTop (mkF m 1 #[.val (.ref aS), .val (.int (0 : Int32)), .val (.int (2 : Int32)), .val (.long s0_), .second] [(.ref aS)]))
  obtain ⟨cl1, Ar1, -, S1, M1, -, -⟩ := id Vs
  refine OGo.step (fun uK kK => X0.arraylength hx (by rw [e0]; exact Ar1.1) (State.isArrayOf_alike hZ.alike Ar1.2.1) (g := (mkF m 1 #[.val (.ref aS), .val (.int (0 : Int32)), .val (.int (2 : Int32)), .val (.long s0_), .second] [(.ref aS)])) rfl rfl (hb hby d6_1) uK kK) ?_
  rw [len_of S1 M1]
  show OGo p e below _ (s₁.setTop (mkF m 2 #[.val (.ref aS), .val (.int (0 : Int32)), .val (.int (2 : Int32)), .val (.long s0_), .second] [(.int (8 : Int32))]))
  refine OGo.step (fun uK kK => XS.iloadN X0.here hx rfl (hb hby d6_2) rfl kK) ?_
  show OGo p e below _ (s₁.setTop (mkF m 3 #[.val (.ref aS), .val (.int (0 : Int32)), .val (.int (2 : Int32)), .val (.long s0_), .second] [(.int (0 : Int32)), (.int (8 : Int32))]))
  refine OGo.step (fun uK kK => XS.iloadN X0.here hx rfl (hb hby d6_3) rfl kK) ?_
  show OGo p e below _ (s₁.setTop (mkF m 4 #[.val (.ref aS), .val (.int (0 : Int32)), .val (.int (2 : Int32)), .val (.long s0_), .second] [(.int (2 : Int32)), (.int (0 : Int32)), (.int (8 : Int32))]))
  obtain ⟨_, _, ⟨T2, Lq2, kq_2, nq_2⟩, -, X2, ⟨Lc2, hQ2, lq2, yq2, zq2⟩, st2⟩ := Jvm.LawKit.callS X0 hx (y := (⟨"java/util/Arrays", "rangeCheck", "(III)V"⟩ : MethodName)) hown (mvT hZ (hw _ (List.mem_of_getElem? (i := 35) rfl))) (mvT hZ (hw _ (List.mem_of_getElem? (i := 36) rfl))) (mvT hZ (hw _ (List.mem_of_getElem? (i := 33) rfl))) (mvT hZ (hw _ (List.mem_of_getElem? (i := 37) rfl))) (by decide) (backOf (W := 0) (rmrc l Z a0 hw [] (8 : Int32) (0 : Int32) (2 : Int32)  h0 n0 Z0 (by decide) (by decide) (by decide)) hZ (hw _ (List.mem_of_getElem? (i := 37) rfl)) (hw _ (List.mem_of_getElem? (i := 33) rfl)) (by decide) (by decide)) (g := (mkF m 4 #[.val (.ref aS), .val (.int (0 : Int32)), .val (.int (2 : Int32)), .val (.long s0_), .second] [(.int (2 : Int32)), (.int (0 : Int32)), (.int (8 : Int32))])) rfl (by rw [hml]; rfl) (argsL := [(.int (8 : Int32)), (.int (0 : Int32)), (.int (2 : Int32))]) (rest := []) (lenOf pdy_t0_0 rfl) rfl (by show 2 * 0 + _ ≤ _; exact Nat.le_of_eq rfl) (hb hby d6_4) (fun _ _ => ⟨rfl, e0, (by decide : 0 + 0 ≤ _), (by decide : 0 + 0 ≤ _)⟩)
  dsimp only [Pt.U, Pt.locs, Pt.cells, Pt.slots] at X2 lq2 yq2 zq2 st2 hQ2
  subst lq2 yq2 zq2
  obtain ⟨rfl, Nq2, e2⟩ := hQ2
  have N2 := Fr.app N0 Nq2
  refine OGo.step (fun uK kK => st2 uK kK) ?_
  show OGo p e below _ (T2.setTop (mkF m 7 #[.val (.ref aS), .val (.int (0 : Int32)), .val (.int (2 : Int32)), .val (.long s0_), .second] []))
  refine OGo.step (fun uK kK => XS.aloadN X2.here hx rfl (hb hby d6_7) rfl rfl kK) ?_
  show OGo p e below _ (T2.setTop (mkF m 8 #[.val (.ref aS), .val (.int (0 : Int32)), .val (.int (2 : Int32)), .val (.long s0_), .second] [(.ref aS)]))
  refine OGo.step (fun uK kK => XS.iloadN X2.here hx rfl (hb hby d6_8) rfl kK) ?_
  show OGo p e below _ (T2.setTop (mkF m 9 #[.val (.ref aS), .val (.int (0 : Int32)), .val (.int (2 : Int32)), .val (.long s0_), .second] [(.int (0 : Int32)), (.ref aS)]))
  refine OGo.step (fun uK kK => XS.iloadN X2.here hx rfl (hb hby d6_9) rfl kK) ?_
  show OGo p e below _ (T2.setTop (mkF m 10 #[.val (.ref aS), .val (.int (0 : Int32)), .val (.int (2 : Int32)), .val (.long s0_), .second] [(.int (2 : Int32)), (.int (0 : Int32)), (.ref aS)]))
  refine OGo.step (fun uK kK => XS.lloadN X2.here hx rfl (hb hby d6_10) rfl kK) ?_
  show OGo p e below _ (T2.setTop (mkF m 11 #[.val (.ref aS), .val (.int (0 : Int32)), .val (.int (2 : Int32)), .val (.long s0_), .second] [(.long s0_), (.int (2 : Int32)), (.int (0 : Int32)), (.ref aS)]))
  obtain ⟨_, _, ⟨T3, Lq3, kq_3, nq_3⟩, -, X3, ⟨Lc3, hQ3, lq3, yq3, zq3⟩, st3⟩ := Jvm.LawKit.callS X2 hx (y := (⟨"java/util/Arrays", "binarySearch0", "([JIIJ)I"⟩ : MethodName)) hown (mvT hZ (hw _ (List.mem_of_getElem? (i := 38) rfl))) (mvT hZ (hw _ (List.mem_of_getElem? (i := 39) rfl))) (mvT hZ (hw _ (List.mem_of_getElem? (i := 33) rfl))) (mvT hZ (hw _ (List.mem_of_getElem? (i := 40) rfl))) (by decide) (backOf (W := 0) (rmz_t0 l Z a0 hw [] aS kS s0_ s1_ s2_ s3_ s4_ s5_ s6_ s7_ h0 n0 Z0 Vs hlt) hZ (hw _ (List.mem_of_getElem? (i := 40) rfl)) (hw _ (List.mem_of_getElem? (i := 33) rfl)) (by decide) (by decide)) (g := (mkF m 11 #[.val (.ref aS), .val (.int (0 : Int32)), .val (.int (2 : Int32)), .val (.long s0_), .second] [(.long s0_), (.int (2 : Int32)), (.int (0 : Int32)), (.ref aS)])) rfl (by rw [hml]; rfl) (argsL := [(.ref aS), (.int (0 : Int32)), (.int (2 : Int32)), (.long s0_)]) (rest := []) (lenOf pdy_t0_1 rfl) rfl (by show 2 * 0 + _ ≤ _; exact Nat.le_of_eq rfl) (hb hby d6_11) (fun _ _ => ⟨rfl, e2, (by decide : 0 + 0 ≤ _), (by decide : 0 + 0 ≤ _)⟩)
  dsimp only [Pt.U, Pt.locs, Pt.cells, Pt.slots] at X3 lq3 yq3 zq3 st3 hQ3
  subst lq3 yq3 zq3
  obtain ⟨rfl, Nq3, e3⟩ := hQ3
  have N3 := Fr.app N2 Nq3
  refine OGo.step (fun uK kK => st3 uK kK) ?_
  show OGo p e below _ (T3.setTop (mkF m 14 #[.val (.ref aS), .val (.int (0 : Int32)), .val (.int (2 : Int32)), .val (.long s0_), .second] [(.int (0 : Int32))]))
  exact OGo.retI X3 hx Bd.notSynchronized Bd.returns (hb hby d6_14) (by decide) (by decide) (by show Qy_t0 Z aS kS s0_ s1_ s2_ s3_ s4_ s5_ s6_ s7_ h0 n0 _ T3.heap _; rw [e3]; exact ⟨rfl, N3, rfl⟩)
theorem pnx_t0 : plainName "com/example/graph_of_conflicts/graphofconflicts/engine/OpenSnapshots" = true := by first | (simp [plainName, overriddenIn]; done) | decide +kernel
theorem pdx_t0_0 : parseMethodDescriptor "([JIIJ)I" = some ⟨[(.array .long), .int, .int, .long], some .int⟩ := by decide +kernel
theorem efx_t0 (m : MethodId) (x0 : Addr) (x1 : Int64) : entryFrame m #[(.ref x0), (.long x1)] 3 = mkF m 0 #[.val (.ref x0), .val (.long x1), .second] [] := by first | (simp [entryFrame, mkF, argsToLocals, Value.category]; done) | rfl
def Qx_t0 (Z : State) (a : Addr) (aS : Addr) (kS : ClassId) (s0_ : Int64) (s1_ : Int64) (s2_ : Int64) (s3_ : Int64) (s4_ : Int64) (s5_ : Int64) (s6_ : Int64) (s7_ : Int64) (h0 : Heap) (n0 : Nat) (v : Option Value) (h : Heap) (L : List Loc) : Prop := v = some (.int (0 : Int32)) ∧ Fr n0 L ∧ h = h0
set_option maxRecDepth 65536 in
set_option maxHeartbeats 40000000 in
theorem rmx_t0 (l : Launch) (Z : State) (a0 : Array Value) (hw : ∀ d ∈ tables_1, d.before a0 Z = true) (ws : List Jvm.Cond) (a : Addr) (aS : Addr) (kS : ClassId) (s0_ : Int64) (s1_ : Int64) (s2_ : Int64) (s3_ : Int64) (s4_ : Int64) (s5_ : Int64) (s6_ : Int64) (s7_ : Int64) (h0 : Heap) (n0 : Nat) (Z0 : n0 ≤ h0.size) (Fs : Fld Z h0 a "com/example/graph_of_conflicts/graphofconflicts/engine/OpenSnapshots" "snapshots" "[J" (.ref aS)) (Fn : Fld Z h0 a "com/example/graph_of_conflicts/graphofconflicts/engine/OpenSnapshots" "size" "I" (.int (2 : Int32))) (Vs : Arv Z h0 aS kS .long (8 : Int32) [(.long s0_), (.long s1_), (.long s2_), (.long s3_), (.long s4_), (.long s5_), (.long s6_), (.long s7_)] (.long (0 : Int64))) (hlt : s0_ < s1_) :
    MetFree l (⟨"com/example/graph_of_conflicts/graphofconflicts/engine/OpenSnapshots", "indexOf", "(J)I"⟩ : MethodName) (head1 (Jvm.Cond.code (⟨"com/example/graph_of_conflicts/graphofconflicts/engine/OpenSnapshots", "indexOf", "(J)I"⟩ : MethodName) prog_55_method_6_code 3 (some .int) :: ws) ({ frames := 2, cells := 0, slots := 0, locals := 37 } : Room)) (fun aQ UQ => aQ = #[(.ref a), (.long s0_)] ∧ Z.Warmed39 UQ.vm ∧ UQ.heap = h0) (fun _ _ _ _ _ => True) (fun _ U o U' => ∃ v L, o = .returned v ∧ Qx_t0 Z a aS kS s0_ s1_ s2_ s3_ s4_ s5_ s6_ s7_ h0 n0 v U'.heap L ∧ FrameEnd U o U' L ({ frames := 2, cells := 0, slots := 0, locals := 37 } : Room).cells ({ frames := 2, cells := 0, slots := 0, locals := 37 } : Room).slots) := by
  refine MetFree.of_bodySF (plainFor_of_name pnx_t0) hisR ?_
  intro p e s m args below meth c s₁ Bd hml0 hP hK
  obtain ⟨rfl, hZ, hh⟩ := hP
  have hx := Bd.exec
  have hby := Bd.bytes
  have hml : c.maxLocals = 3 := hml0
  have hown : s.vm.findClass "com/example/graph_of_conflicts/graphofconflicts/engine/OpenSnapshots" = some m.cls := findClass_of_methodNamed Bd.named
  have hnm := (name_of_methodNamed Bd.named Bd.method).1
  have X0 : Stand p l e ({ frames := 2, cells := 0, slots := 0, locals := 37 } : Room) s m #[(.ref a), (.long s0_)] below meth c s₁ [] 0 0 := Stand.of_body Bd
  have e0 : s₁.heap = h0 := by rw [← hh, Bd.state]; rfl
  have N0 := Fr.nil n0
  show OGo p e below (OPost s (Qx_t0 Z a aS kS s0_ s1_ s2_ s3_ s4_ s5_ s6_ s7_ h0 n0) ({ frames := 2, cells := 0, slots := 0, locals := 37 } : Room).cells ({ frames := 2, cells := 0, slots := 0, locals := 37 } : Room).slots) (s₁.setTop (entryFrame m #[(.ref a), (.long s0_)] 3))
  refine OGo.step (fun uK kK => castTop (efx_t0 m a s0_) kK) ?_
  show OGo p e below _ (s₁.setTop (mkF m 0 #[.val (.ref a), .val (.long s0_), .second] []))
  refine OGo.step (fun uK kK => XS.aloadN X0.here hx rfl (hb hby d5_0) rfl rfl kK) ?_
  show OGo p e below _ (s₁.setTop (mkF m 1 #[.val (.ref a), .val (.long s0_), .second] [(.ref a)]))
  obtain ⟨T1, X1, e1, st1⟩ := getF X0 hx hZ hown (host := "") (Or.inl (hw _ (List.mem_of_getElem? (i := 15) rfl))) Via.refl e0 Fs (g := (mkF m 1 #[.val (.ref a), .val (.long s0_), .second] [(.ref a)])) rfl rfl (hb hby d5_1)
  refine OGo.step (fun uK kK => st1 uK kK) ?_
  show OGo p e below _ (T1.setTop (mkF m 4 #[.val (.ref a), .val (.long s0_), .second] [(.ref aS)]))
  refine OGo.step (fun uK kK => XS.iconst X1.here hx rfl (hb hby d5_4) kK) ?_
  show OGo p e below _ (T1.setTop (mkF m 5 #[.val (.ref a), .val (.long s0_), .second] [(.int (0 : Int32)), (.ref aS)]))
  refine OGo.step (fun uK kK => XS.aloadN X1.here hx rfl (hb hby d5_5) rfl rfl kK) ?_
  show OGo p e below _ (T1.setTop (mkF m 6 #[.val (.ref a), .val (.long s0_), .second] [(.ref a), (.int (0 : Int32)), (.ref aS)]))
  obtain ⟨T2, X2, e2, st2⟩ := getF X1 hx hZ hown (host := "") (Or.inl (hw _ (List.mem_of_getElem? (i := 29) rfl))) Via.refl e1 Fn (g := (mkF m 6 #[.val (.ref a), .val (.long s0_), .second] [(.ref a), (.int (0 : Int32)), (.ref aS)])) rfl rfl (hb hby d5_6)
  refine OGo.step (fun uK kK => st2 uK kK) ?_
  show OGo p e below _ (T2.setTop (mkF m 9 #[.val (.ref a), .val (.long s0_), .second] [(.int (2 : Int32)), (.int (0 : Int32)), (.ref aS)]))
  refine OGo.step (fun uK kK => XS.lloadN X2.here hx rfl (hb hby d5_9) rfl kK) ?_
  show OGo p e below _ (T2.setTop (mkF m 10 #[.val (.ref a), .val (.long s0_), .second] [(.long s0_), (.int (2 : Int32)), (.int (0 : Int32)), (.ref aS)]))
  obtain ⟨_, _, ⟨T3, Lq3, kq_3, nq_3⟩, -, X3, ⟨Lc3, hQ3, lq3, yq3, zq3⟩, st3⟩ := Jvm.LawKit.callS X2 hx (y := (⟨"java/util/Arrays", "binarySearch", "([JIIJ)I"⟩ : MethodName)) hown (mvT hZ (hw _ (List.mem_of_getElem? (i := 31) rfl))) (mvT hZ (hw _ (List.mem_of_getElem? (i := 32) rfl))) (mvT hZ (hw _ (List.mem_of_getElem? (i := 33) rfl))) (mvT hZ (hw _ (List.mem_of_getElem? (i := 34) rfl))) (by decide) (backOf (W := 0) (rmy_t0 l Z a0 hw [] aS kS s0_ s1_ s2_ s3_ s4_ s5_ s6_ s7_ h0 n0 Z0 Vs hlt) hZ (hw _ (List.mem_of_getElem? (i := 34) rfl)) (hw _ (List.mem_of_getElem? (i := 33) rfl)) (by decide) (by decide)) (g := (mkF m 10 #[.val (.ref a), .val (.long s0_), .second] [(.long s0_), (.int (2 : Int32)), (.int (0 : Int32)), (.ref aS)])) rfl (by rw [hml]; rfl) (argsL := [(.ref aS), (.int (0 : Int32)), (.int (2 : Int32)), (.long s0_)]) (rest := []) (lenOf pdx_t0_0 rfl) rfl (by show 2 * 0 + _ ≤ _; exact Nat.le_of_eq rfl) (hb hby d5_10) (fun _ _ => ⟨rfl, e2, (by decide : 0 + 0 ≤ _), (by decide : 0 + 0 ≤ _)⟩)
  dsimp only [Pt.U, Pt.locs, Pt.cells, Pt.slots] at X3 lq3 yq3 zq3 st3 hQ3
  subst lq3 yq3 zq3
  obtain ⟨rfl, Nq3, e3⟩ := hQ3
  have N3 := Fr.app N0 Nq3
  refine OGo.step (fun uK kK => st3 uK kK) ?_
  show OGo p e below _ (T3.setTop (mkF m 13 #[.val (.ref a), .val (.long s0_), .second] [(.int (0 : Int32))]))
  exact OGo.retI X3 hx Bd.notSynchronized Bd.returns (hb hby d5_13) (by decide) (by decide) (by show Qx_t0 Z a aS kS s0_ s1_ s2_ s3_ s4_ s5_ s6_ s7_ h0 n0 _ T3.heap _; rw [e3]; exact ⟨rfl, N3, rfl⟩)
theorem pnz_t1 : plainName "java/util/Arrays" = true := by first | (simp [plainName, overriddenIn]; done) | decide +kernel
theorem efz_t1 (m : MethodId) (x0 : Addr) (x1 : Int32) (x2 : Int32) (x3 : Int64) : entryFrame m #[(.ref x0), (.int x1), (.int x2), (.long x3)] 10 = mkF m 0 #[.val (.ref x0), .val (.int x1), .val (.int x2), .val (.long x3), .second, .unset, .unset, .unset, .unset, .unset] [] := by first | (simp [entryFrame, mkF, argsToLocals, Value.category]; done) | rfl
def Qz_t1 (Z : State) (aS : Addr) (kS : ClassId) (s0_ : Int64) (s1_ : Int64) (s2_ : Int64) (s3_ : Int64) (s4_ : Int64) (s5_ : Int64) (s6_ : Int64) (s7_ : Int64) (h0 : Heap) (n0 : Nat) (v : Option Value) (h : Heap) (L : List Loc) : Prop := v = some (.int (1 : Int32)) ∧ Fr n0 L ∧ h = h0
set_option maxRecDepth 65536 in
set_option maxHeartbeats 40000000 in
theorem rmz_t1 (l : Launch) (Z : State) (a0 : Array Value) (hw : ∀ d ∈ tables_1, d.before a0 Z = true) (ws : List Jvm.Cond) (aS : Addr) (kS : ClassId) (s0_ : Int64) (s1_ : Int64) (s2_ : Int64) (s3_ : Int64) (s4_ : Int64) (s5_ : Int64) (s6_ : Int64) (s7_ : Int64) (h0 : Heap) (n0 : Nat) (Z0 : n0 ≤ h0.size) (Vs : Arv Z h0 aS kS .long (8 : Int32) [(.long s0_), (.long s1_), (.long s2_), (.long s3_), (.long s4_), (.long s5_), (.long s6_), (.long s7_)] (.long (0 : Int64))) (hlt : s0_ < s1_) :
    MetFree l (⟨"java/util/Arrays", "binarySearch0", "([JIIJ)I"⟩ : MethodName) (head1 (Jvm.Cond.code (⟨"java/util/Arrays", "binarySearch0", "([JIIJ)I"⟩ : MethodName) jdk_65_method_56_code 10 (some .int) :: ws) ({ frames := 0, cells := 0, slots := 0, locals := 0 } : Room)) (fun aQ UQ => aQ = #[(.ref aS), (.int (0 : Int32)), (.int (2 : Int32)), (.long s1_)] ∧ Z.Warmed39 UQ.vm ∧ UQ.heap = h0) (fun _ _ _ _ _ => True) (fun _ U o U' => ∃ v L, o = .returned v ∧ Qz_t1 Z aS kS s0_ s1_ s2_ s3_ s4_ s5_ s6_ s7_ h0 n0 v U'.heap L ∧ FrameEnd U o U' L ({ frames := 0, cells := 0, slots := 0, locals := 0 } : Room).cells ({ frames := 0, cells := 0, slots := 0, locals := 0 } : Room).slots) := by
  refine MetFree.of_bodySF (plainFor_of_name pnz_t1) hisR ?_
  intro p e s m args below meth c s₁ Bd hml0 hP hK
  obtain ⟨rfl, hZ, hh⟩ := hP
  have hx := Bd.exec
  have hby := Bd.bytes
  have hml : c.maxLocals = 10 := hml0
  have hown : s.vm.findClass "java/util/Arrays" = some m.cls := findClass_of_methodNamed Bd.named
  have hnm := (name_of_methodNamed Bd.named Bd.method).1
  have X0 : Stand p l e ({ frames := 0, cells := 0, slots := 0, locals := 0 } : Room) s m #[(.ref aS), (.int (0 : Int32)), (.int (2 : Int32)), (.long s1_)] below meth c s₁ [] 0 0 := Stand.of_body Bd
  have e0 : s₁.heap = h0 := by rw [← hh, Bd.state]; rfl
  have N0 := Fr.nil n0
  show OGo p e below (OPost s (Qz_t1 Z aS kS s0_ s1_ s2_ s3_ s4_ s5_ s6_ s7_ h0 n0) ({ frames := 0, cells := 0, slots := 0, locals := 0 } : Room).cells ({ frames := 0, cells := 0, slots := 0, locals := 0 } : Room).slots) (s₁.setTop (entryFrame m #[(.ref aS), (.int (0 : Int32)), (.int (2 : Int32)), (.long s1_)] 10))
  refine OGo.step (fun uK kK => castTop (efz_t1 m aS (0 : Int32) (2 : Int32) s1_) kK) ?_
  show OGo p e below _ (s₁.setTop (mkF m 0 #[.val (.ref aS), .val (.int (0 : Int32)), .val (.int (2 : Int32)), .val (.long s1_), .second, .unset, .unset, .unset, .unset, .unset] []))
  refine OGo.step (fun uK kK => XS.iloadN X0.here hx rfl (hb hby d8_0) rfl kK) ?_
  show OGo p e below _ (s₁.setTop (mkF m 1 #[.val (.ref aS), .val (.int (0 : Int32)), .val (.int (2 : Int32)), .val (.long s1_), .second, .unset, .unset, .unset, .unset, .unset] [(.int (0 : Int32))]))
  refine OGo.step (fun uK kK => XS.istore X0.here hx rfl (hb hby d8_1) rfl (l' := #[.val (.ref aS), .val (.int (0 : Int32)), .val (.int (2 : Int32)), .val (.long s1_), .second, .val (.int (0 : Int32)), .unset, .unset, .unset, .unset]) rfl kK) ?_
  show OGo p e below _ (s₁.setTop (mkF m 3 #[.val (.ref aS), .val (.int (0 : Int32)), .val (.int (2 : Int32)), .val (.long s1_), .second, .val (.int (0 : Int32)), .unset, .unset, .unset, .unset] []))
  refine OGo.step (fun uK kK => XS.iloadN X0.here hx rfl (hb hby d8_3) rfl kK) ?_
  show OGo p e below _ (s₁.setTop (mkF m 4 #[.val (.ref aS), .val (.int (0 : Int32)), .val (.int (2 : Int32)), .val (.long s1_), .second, .val (.int (0 : Int32)), .unset, .unset, .unset, .unset] [(.int (2 : Int32))]))
  refine OGo.step (fun uK kK => XS.iconst X0.here hx rfl (hb hby d8_4) kK) ?_
  show OGo p e below _ (s₁.setTop (mkF m 5 #[.val (.ref aS), .val (.int (0 : Int32)), .val (.int (2 : Int32)), .val (.long s1_), .second, .val (.int (0 : Int32)), .unset, .unset, .unset, .unset] [(.int (1 : Int32)), (.int (2 : Int32))]))
  refine OGo.step (fun uK kK => XS.isub X0.here hx rfl (hb hby d8_5) rfl kK) ?_
  show OGo p e below _ (s₁.setTop (mkF m 6 #[.val (.ref aS), .val (.int (0 : Int32)), .val (.int (2 : Int32)), .val (.long s1_), .second, .val (.int (0 : Int32)), .unset, .unset, .unset, .unset] [(.int ((2 : Int32) - (1 : Int32)))]))
  have ez1 : ((2 : Int32) - (1 : Int32)) = (1 : Int32) := by decide
  rw [ez1]
  show OGo p e below _ (s₁.setTop (mkF m 6 #[.val (.ref aS), .val (.int (0 : Int32)), .val (.int (2 : Int32)), .val (.long s1_), .second, .val (.int (0 : Int32)), .unset, .unset, .unset, .unset] [(.int (1 : Int32))]))
  refine OGo.step (fun uK kK => XS.istore X0.here hx rfl (hb hby d8_6) rfl (l' := #[.val (.ref aS), .val (.int (0 : Int32)), .val (.int (2 : Int32)), .val (.long s1_), .second, .val (.int (0 : Int32)), .val (.int (1 : Int32)), .unset, .unset, .unset]) rfl kK) ?_
  show OGo p e below _ (s₁.setTop (mkF m 8 #[.val (.ref aS), .val (.int (0 : Int32)), .val (.int (2 : Int32)), .val (.long s1_), .second, .val (.int (0 : Int32)), .val (.int (1 : Int32)), .unset, .unset, .unset] []))
  refine OGo.step (fun uK kK => XS.iload X0.here hx rfl (hb hby d8_8) rfl kK) ?_
  show OGo p e below _ (s₁.setTop (mkF m 10 #[.val (.ref aS), .val (.int (0 : Int32)), .val (.int (2 : Int32)), .val (.long s1_), .second, .val (.int (0 : Int32)), .val (.int (1 : Int32)), .unset, .unset, .unset] [(.int (0 : Int32))]))
  refine OGo.step (fun uK kK => XS.iload X0.here hx rfl (hb hby d8_10) rfl kK) ?_
  show OGo p e below _ (s₁.setTop (mkF m 12 #[.val (.ref aS), .val (.int (0 : Int32)), .val (.int (2 : Int32)), .val (.long s1_), .second, .val (.int (0 : Int32)), .val (.int (1 : Int32)), .unset, .unset, .unset] [(.int (1 : Int32)), (.int (0 : Int32))]))
  have hc12 : ¬ ((1 : Int32) < (0 : Int32)) := by decide
  refine OGo.step (fun uK kK => XS.icmpNo X0.here hx rfl (hb hby d8_12) rfl (flt hc12).2.2.1 kK) ?_
  show OGo p e below _ (s₁.setTop (mkF m 15 #[.val (.ref aS), .val (.int (0 : Int32)), .val (.int (2 : Int32)), .val (.long s1_), .second, .val (.int (0 : Int32)), .val (.int (1 : Int32)), .unset, .unset, .unset] []))
  refine OGo.step (fun uK kK => XS.iload X0.here hx rfl (hb hby d8_15) rfl kK) ?_
  show OGo p e below _ (s₁.setTop (mkF m 17 #[.val (.ref aS), .val (.int (0 : Int32)), .val (.int (2 : Int32)), .val (.long s1_), .second, .val (.int (0 : Int32)), .val (.int (1 : Int32)), .unset, .unset, .unset] [(.int (0 : Int32))]))
  refine OGo.step (fun uK kK => XS.iload X0.here hx rfl (hb hby d8_17) rfl kK) ?_
  show OGo p e below _ (s₁.setTop (mkF m 19 #[.val (.ref aS), .val (.int (0 : Int32)), .val (.int (2 : Int32)), .val (.long s1_), .second, .val (.int (0 : Int32)), .val (.int (1 : Int32)), .unset, .unset, .unset] [(.int (1 : Int32)), (.int (0 : Int32))]))
  refine OGo.step (fun uK kK => XS.iadd X0.here hx rfl (hb hby d8_19) rfl kK) ?_
  show OGo p e below _ (s₁.setTop (mkF m 20 #[.val (.ref aS), .val (.int (0 : Int32)), .val (.int (2 : Int32)), .val (.long s1_), .second, .val (.int (0 : Int32)), .val (.int (1 : Int32)), .unset, .unset, .unset] [(.int ((0 : Int32) + (1 : Int32)))]))
  have ez2 : ((0 : Int32) + (1 : Int32)) = (1 : Int32) := by decide
  rw [ez2]
  show OGo p e below _ (s₁.setTop (mkF m 20 #[.val (.ref aS), .val (.int (0 : Int32)), .val (.int (2 : Int32)), .val (.long s1_), .second, .val (.int (0 : Int32)), .val (.int (1 : Int32)), .unset, .unset, .unset] [(.int (1 : Int32))]))
  refine OGo.step (fun uK kK => XS.iconst X0.here hx rfl (hb hby d8_20) kK) ?_
  show OGo p e below _ (s₁.setTop (mkF m 21 #[.val (.ref aS), .val (.int (0 : Int32)), .val (.int (2 : Int32)), .val (.long s1_), .second, .val (.int (0 : Int32)), .val (.int (1 : Int32)), .unset, .unset, .unset] [(.int (1 : Int32)), (.int (1 : Int32))]))
  refine OGo.step (fun uK kK => XS.iushr X0.here hx rfl (hb hby d8_21) rfl kK) ?_
  show OGo p e below _ (s₁.setTop (mkF m 22 #[.val (.ref aS), .val (.int (0 : Int32)), .val (.int (2 : Int32)), .val (.long s1_), .second, .val (.int (0 : Int32)), .val (.int (1 : Int32)), .unset, .unset, .unset] [(.int (((1 : Int32).toUInt32 >>> ((1 : Int32) &&& 31).toUInt32).toInt32))]))
  have ez3 : (((1 : Int32).toUInt32 >>> ((1 : Int32) &&& 31).toUInt32).toInt32) = (0 : Int32) := by decide
  rw [ez3]
  show OGo p e below _ (s₁.setTop (mkF m 22 #[.val (.ref aS), .val (.int (0 : Int32)), .val (.int (2 : Int32)), .val (.long s1_), .second, .val (.int (0 : Int32)), .val (.int (1 : Int32)), .unset, .unset, .unset] [(.int (0 : Int32))]))
  refine OGo.step (fun uK kK => XS.istore X0.here hx rfl (hb hby d8_22) rfl (l' := #[.val (.ref aS), .val (.int (0 : Int32)), .val (.int (2 : Int32)), .val (.long s1_), .second, .val (.int (0 : Int32)), .val (.int (1 : Int32)), .val (.int (0 : Int32)), .unset, .unset]) rfl kK) ?_
  show OGo p e below _ (s₁.setTop (mkF m 24 #[.val (.ref aS), .val (.int (0 : Int32)), .val (.int (2 : Int32)), .val (.long s1_), .second, .val (.int (0 : Int32)), .val (.int (1 : Int32)), .val (.int (0 : Int32)), .unset, .unset] []))
  refine OGo.step (fun uK kK => XS.aloadN X0.here hx rfl (hb hby d8_24) rfl rfl kK) ?_
  show OGo p e below _ (s₁.setTop (mkF m 25 #[.val (.ref aS), .val (.int (0 : Int32)), .val (.int (2 : Int32)), .val (.long s1_), .second, .val (.int (0 : Int32)), .val (.int (1 : Int32)), .val (.int (0 : Int32)), .unset, .unset] [(.ref aS)]))
  refine OGo.step (fun uK kK => XS.iload X0.here hx rfl (hb hby d8_25) rfl kK) ?_
  show OGo p e below _ (s₁.setTop (mkF m 27 #[.val (.ref aS), .val (.int (0 : Int32)), .val (.int (2 : Int32)), .val (.long s1_), .second, .val (.int (0 : Int32)), .val (.int (1 : Int32)), .val (.int (0 : Int32)), .unset, .unset] [(.int (0 : Int32)), (.ref aS)]))
  obtain ⟨cl4, Ar4, q4, S4, M4, H4, G4⟩ := id Vs
  have hin4 : ¬ ((0 : Int32) < 0 ∨ cl4.slots.size ≤ ((0 : Int32)).toNatClampNeg) := inb_of S4 ⟨by decide, by decide⟩
  have hat4 : cl4.slots[((0 : Int32)).toNatClampNeg]? = some (.long s0_) := H4.at hin4 rfl
  refine OGo.step (fun uK kK => X0.laload hx (j := (0 : Int32)) (v := (.long s0_)) (by rw [e0]; exact Ar4.1) (State.isArrayOf_alike hZ.alike Ar4.2.1) Ar4.2.2 hin4 hat4 (g := (mkF m 27 #[.val (.ref aS), .val (.int (0 : Int32)), .val (.int (2 : Int32)), .val (.long s1_), .second, .val (.int (0 : Int32)), .val (.int (1 : Int32)), .val (.int (0 : Int32)), .unset, .unset] [(.int (0 : Int32)), (.ref aS)])) rfl rfl (hb hby d8_27) uK kK) ?_
  show OGo p e below _ (s₁.setTop (mkF m 28 #[.val (.ref aS), .val (.int (0 : Int32)), .val (.int (2 : Int32)), .val (.long s1_), .second, .val (.int (0 : Int32)), .val (.int (1 : Int32)), .val (.int (0 : Int32)), .unset, .unset] [(.long s0_)]))
  refine OGo.step (fun uK kK => XS.lstore X0.here hx rfl (hb hby d8_28) rfl (l' := #[.val (.ref aS), .val (.int (0 : Int32)), .val (.int (2 : Int32)), .val (.long s1_), .second, .val (.int (0 : Int32)), .val (.int (1 : Int32)), .val (.int (0 : Int32)), .val (.long s0_), .second]) rfl kK) ?_
  show OGo p e below _ (s₁.setTop (mkF m 30 #[.val (.ref aS), .val (.int (0 : Int32)), .val (.int (2 : Int32)), .val (.long s1_), .second, .val (.int (0 : Int32)), .val (.int (1 : Int32)), .val (.int (0 : Int32)), .val (.long s0_), .second] []))
  refine OGo.step (fun uK kK => XS.lload X0.here hx rfl (hb hby d8_30) rfl kK) ?_
  show OGo p e below _ (s₁.setTop (mkF m 32 #[.val (.ref aS), .val (.int (0 : Int32)), .val (.int (2 : Int32)), .val (.long s1_), .second, .val (.int (0 : Int32)), .val (.int (1 : Int32)), .val (.int (0 : Int32)), .val (.long s0_), .second] [(.long s0_)]))
  refine OGo.step (fun uK kK => XS.lloadN X0.here hx rfl (hb hby d8_32) rfl kK) ?_
  show OGo p e below _ (s₁.setTop (mkF m 33 #[.val (.ref aS), .val (.int (0 : Int32)), .val (.int (2 : Int32)), .val (.long s1_), .second, .val (.int (0 : Int32)), .val (.int (1 : Int32)), .val (.int (0 : Int32)), .val (.long s0_), .second] [(.long s1_), (.long s0_)]))
  refine OGo.step (fun uK kK => XS.lcmp X0.here hx rfl (hb hby d8_33) rfl kK) ?_
  show OGo p e below _ (s₁.setTop (mkF m 34 #[.val (.ref aS), .val (.int (0 : Int32)), .val (.int (2 : Int32)), .val (.long s1_), .second, .val (.int (0 : Int32)), .val (.int (1 : Int32)), .val (.int (0 : Int32)), .val (.long s0_), .second] [(.int (lcmpW s0_ s1_))]))
  have hc34 : s0_ < s1_ := hlt
  refine OGo.step (fun uK kK => XS.ifNo X0.here hx rfl (hb hby d8_34) rfl ((if0 _ _).trans (tlt ((lw_lt _ _).mpr hc34)).2.1) kK) ?_
  show OGo p e below _ (s₁.setTop (mkF m 37 #[.val (.ref aS), .val (.int (0 : Int32)), .val (.int (2 : Int32)), .val (.long s1_), .second, .val (.int (0 : Int32)), .val (.int (1 : Int32)), .val (.int (0 : Int32)), .val (.long s0_), .second] []))
  refine OGo.step (fun uK kK => XS.iload X0.here hx rfl (hb hby d8_37) rfl kK) ?_
  show OGo p e below _ (s₁.setTop (mkF m 39 #[.val (.ref aS), .val (.int (0 : Int32)), .val (.int (2 : Int32)), .val (.long s1_), .second, .val (.int (0 : Int32)), .val (.int (1 : Int32)), .val (.int (0 : Int32)), .val (.long s0_), .second] [(.int (0 : Int32))]))
  refine OGo.step (fun uK kK => XS.iconst X0.here hx rfl (hb hby d8_39) kK) ?_
  show OGo p e below _ (s₁.setTop (mkF m 40 #[.val (.ref aS), .val (.int (0 : Int32)), .val (.int (2 : Int32)), .val (.long s1_), .second, .val (.int (0 : Int32)), .val (.int (1 : Int32)), .val (.int (0 : Int32)), .val (.long s0_), .second] [(.int (1 : Int32)), (.int (0 : Int32))]))
  refine OGo.step (fun uK kK => XS.iadd X0.here hx rfl (hb hby d8_40) rfl kK) ?_
  show OGo p e below _ (s₁.setTop (mkF m 41 #[.val (.ref aS), .val (.int (0 : Int32)), .val (.int (2 : Int32)), .val (.long s1_), .second, .val (.int (0 : Int32)), .val (.int (1 : Int32)), .val (.int (0 : Int32)), .val (.long s0_), .second] [(.int ((0 : Int32) + (1 : Int32)))]))
  have ez5 : ((0 : Int32) + (1 : Int32)) = (1 : Int32) := by decide
  rw [ez5]
  show OGo p e below _ (s₁.setTop (mkF m 41 #[.val (.ref aS), .val (.int (0 : Int32)), .val (.int (2 : Int32)), .val (.long s1_), .second, .val (.int (0 : Int32)), .val (.int (1 : Int32)), .val (.int (0 : Int32)), .val (.long s0_), .second] [(.int (1 : Int32))]))
  refine OGo.step (fun uK kK => XS.istore X0.here hx rfl (hb hby d8_41) rfl (l' := #[.val (.ref aS), .val (.int (0 : Int32)), .val (.int (2 : Int32)), .val (.long s1_), .second, .val (.int (1 : Int32)), .val (.int (1 : Int32)), .val (.int (0 : Int32)), .val (.long s0_), .second]) rfl kK) ?_
  show OGo p e below _ (s₁.setTop (mkF m 43 #[.val (.ref aS), .val (.int (0 : Int32)), .val (.int (2 : Int32)), .val (.long s1_), .second, .val (.int (1 : Int32)), .val (.int (1 : Int32)), .val (.int (0 : Int32)), .val (.long s0_), .second] []))
  refine OGo.step (fun uK kK => XS.goto X0.here hx rfl (pc0 := 43) (pc' := 65) rfl (hb hby d8_43) (by decide) (by decide) kK) ?_
  show OGo p e below _ (s₁.setTop (mkF m 65 #[.val (.ref aS), .val (.int (0 : Int32)), .val (.int (2 : Int32)), .val (.long s1_), .second, .val (.int (1 : Int32)), .val (.int (1 : Int32)), .val (.int (0 : Int32)), .val (.long s0_), .second] []))
  refine OGo.step (fun uK kK => XS.goto X0.here hx rfl (pc0 := 65) (pc' := 8) rfl (hb hby d8_65) (by decide) (by decide) kK) ?_
  show OGo p e below _ (s₁.setTop (mkF m 8 #[.val (.ref aS), .val (.int (0 : Int32)), .val (.int (2 : Int32)), .val (.long s1_), .second, .val (.int (1 : Int32)), .val (.int (1 : Int32)), .val (.int (0 : Int32)), .val (.long s0_), .second] []))
  refine OGo.step (fun uK kK => XS.iload X0.here hx rfl (hb hby d8_8) rfl kK) ?_
  show OGo p e below _ (s₁.setTop (mkF m 10 #[.val (.ref aS), .val (.int (0 : Int32)), .val (.int (2 : Int32)), .val (.long s1_), .second, .val (.int (1 : Int32)), .val (.int (1 : Int32)), .val (.int (0 : Int32)), .val (.long s0_), .second] [(.int (1 : Int32))]))
  refine OGo.step (fun uK kK => XS.iload X0.here hx rfl (hb hby d8_10) rfl kK) ?_
  show OGo p e below _ (s₁.setTop (mkF m 12 #[.val (.ref aS), .val (.int (0 : Int32)), .val (.int (2 : Int32)), .val (.long s1_), .second, .val (.int (1 : Int32)), .val (.int (1 : Int32)), .val (.int (0 : Int32)), .val (.long s0_), .second] [(.int (1 : Int32)), (.int (1 : Int32))]))
  have hc12 : ¬ ((1 : Int32) < (1 : Int32)) := by decide
  refine OGo.step (fun uK kK => XS.icmpNo X0.here hx rfl (hb hby d8_12) rfl (flt hc12).2.2.1 kK) ?_
  show OGo p e below _ (s₁.setTop (mkF m 15 #[.val (.ref aS), .val (.int (0 : Int32)), .val (.int (2 : Int32)), .val (.long s1_), .second, .val (.int (1 : Int32)), .val (.int (1 : Int32)), .val (.int (0 : Int32)), .val (.long s0_), .second] []))
  refine OGo.step (fun uK kK => XS.iload X0.here hx rfl (hb hby d8_15) rfl kK) ?_
  show OGo p e below _ (s₁.setTop (mkF m 17 #[.val (.ref aS), .val (.int (0 : Int32)), .val (.int (2 : Int32)), .val (.long s1_), .second, .val (.int (1 : Int32)), .val (.int (1 : Int32)), .val (.int (0 : Int32)), .val (.long s0_), .second] [(.int (1 : Int32))]))
  refine OGo.step (fun uK kK => XS.iload X0.here hx rfl (hb hby d8_17) rfl kK) ?_
  show OGo p e below _ (s₁.setTop (mkF m 19 #[.val (.ref aS), .val (.int (0 : Int32)), .val (.int (2 : Int32)), .val (.long s1_), .second, .val (.int (1 : Int32)), .val (.int (1 : Int32)), .val (.int (0 : Int32)), .val (.long s0_), .second] [(.int (1 : Int32)), (.int (1 : Int32))]))
  refine OGo.step (fun uK kK => XS.iadd X0.here hx rfl (hb hby d8_19) rfl kK) ?_
  show OGo p e below _ (s₁.setTop (mkF m 20 #[.val (.ref aS), .val (.int (0 : Int32)), .val (.int (2 : Int32)), .val (.long s1_), .second, .val (.int (1 : Int32)), .val (.int (1 : Int32)), .val (.int (0 : Int32)), .val (.long s0_), .second] [(.int ((1 : Int32) + (1 : Int32)))]))
  have ez6 : ((1 : Int32) + (1 : Int32)) = (2 : Int32) := by decide
  rw [ez6]
  show OGo p e below _ (s₁.setTop (mkF m 20 #[.val (.ref aS), .val (.int (0 : Int32)), .val (.int (2 : Int32)), .val (.long s1_), .second, .val (.int (1 : Int32)), .val (.int (1 : Int32)), .val (.int (0 : Int32)), .val (.long s0_), .second] [(.int (2 : Int32))]))
  refine OGo.step (fun uK kK => XS.iconst X0.here hx rfl (hb hby d8_20) kK) ?_
  show OGo p e below _ (s₁.setTop (mkF m 21 #[.val (.ref aS), .val (.int (0 : Int32)), .val (.int (2 : Int32)), .val (.long s1_), .second, .val (.int (1 : Int32)), .val (.int (1 : Int32)), .val (.int (0 : Int32)), .val (.long s0_), .second] [(.int (1 : Int32)), (.int (2 : Int32))]))
  refine OGo.step (fun uK kK => XS.iushr X0.here hx rfl (hb hby d8_21) rfl kK) ?_
  show OGo p e below _ (s₁.setTop (mkF m 22 #[.val (.ref aS), .val (.int (0 : Int32)), .val (.int (2 : Int32)), .val (.long s1_), .second, .val (.int (1 : Int32)), .val (.int (1 : Int32)), .val (.int (0 : Int32)), .val (.long s0_), .second] [(.int (((2 : Int32).toUInt32 >>> ((1 : Int32) &&& 31).toUInt32).toInt32))]))
  have ez7 : (((2 : Int32).toUInt32 >>> ((1 : Int32) &&& 31).toUInt32).toInt32) = (1 : Int32) := by decide
  rw [ez7]
  show OGo p e below _ (s₁.setTop (mkF m 22 #[.val (.ref aS), .val (.int (0 : Int32)), .val (.int (2 : Int32)), .val (.long s1_), .second, .val (.int (1 : Int32)), .val (.int (1 : Int32)), .val (.int (0 : Int32)), .val (.long s0_), .second] [(.int (1 : Int32))]))
  refine OGo.step (fun uK kK => XS.istore X0.here hx rfl (hb hby d8_22) rfl (l' := #[.val (.ref aS), .val (.int (0 : Int32)), .val (.int (2 : Int32)), .val (.long s1_), .second, .val (.int (1 : Int32)), .val (.int (1 : Int32)), .val (.int (1 : Int32)), .val (.long s0_), .second]) rfl kK) ?_
  show OGo p e below _ (s₁.setTop (mkF m 24 #[.val (.ref aS), .val (.int (0 : Int32)), .val (.int (2 : Int32)), .val (.long s1_), .second, .val (.int (1 : Int32)), .val (.int (1 : Int32)), .val (.int (1 : Int32)), .val (.long s0_), .second] []))
  refine OGo.step (fun uK kK => XS.aloadN X0.here hx rfl (hb hby d8_24) rfl rfl kK) ?_
  show OGo p e below _ (s₁.setTop (mkF m 25 #[.val (.ref aS), .val (.int (0 : Int32)), .val (.int (2 : Int32)), .val (.long s1_), .second, .val (.int (1 : Int32)), .val (.int (1 : Int32)), .val (.int (1 : Int32)), .val (.long s0_), .second] [(.ref aS)]))
  refine OGo.step (fun uK kK => XS.iload X0.here hx rfl (hb hby d8_25) rfl kK) ?_
  show OGo p e below _ (s₁.setTop (mkF m 27 #[.val (.ref aS), .val (.int (0 : Int32)), .val (.int (2 : Int32)), .val (.long s1_), .second, .val (.int (1 : Int32)), .val (.int (1 : Int32)), .val (.int (1 : Int32)), .val (.long s0_), .second] [(.int (1 : Int32)), (.ref aS)]))
  obtain ⟨cl8, Ar8, q8, S8, M8, H8, G8⟩ := id Vs
  have hin8 : ¬ ((1 : Int32) < 0 ∨ cl8.slots.size ≤ ((1 : Int32)).toNatClampNeg) := inb_of S8 ⟨by decide, by decide⟩
  have hat8 : cl8.slots[((1 : Int32)).toNatClampNeg]? = some (.long s1_) := H8.at hin8 rfl
  refine OGo.step (fun uK kK => X0.laload hx (j := (1 : Int32)) (v := (.long s1_)) (by rw [e0]; exact Ar8.1) (State.isArrayOf_alike hZ.alike Ar8.2.1) Ar8.2.2 hin8 hat8 (g := (mkF m 27 #[.val (.ref aS), .val (.int (0 : Int32)), .val (.int (2 : Int32)), .val (.long s1_), .second, .val (.int (1 : Int32)), .val (.int (1 : Int32)), .val (.int (1 : Int32)), .val (.long s0_), .second] [(.int (1 : Int32)), (.ref aS)])) rfl rfl (hb hby d8_27) uK kK) ?_
  show OGo p e below _ (s₁.setTop (mkF m 28 #[.val (.ref aS), .val (.int (0 : Int32)), .val (.int (2 : Int32)), .val (.long s1_), .second, .val (.int (1 : Int32)), .val (.int (1 : Int32)), .val (.int (1 : Int32)), .val (.long s0_), .second] [(.long s1_)]))
  refine OGo.step (fun uK kK => XS.lstore X0.here hx rfl (hb hby d8_28) rfl (l' := #[.val (.ref aS), .val (.int (0 : Int32)), .val (.int (2 : Int32)), .val (.long s1_), .second, .val (.int (1 : Int32)), .val (.int (1 : Int32)), .val (.int (1 : Int32)), .val (.long s1_), .second]) rfl kK) ?_
  show OGo p e below _ (s₁.setTop (mkF m 30 #[.val (.ref aS), .val (.int (0 : Int32)), .val (.int (2 : Int32)), .val (.long s1_), .second, .val (.int (1 : Int32)), .val (.int (1 : Int32)), .val (.int (1 : Int32)), .val (.long s1_), .second] []))
  refine OGo.step (fun uK kK => XS.lload X0.here hx rfl (hb hby d8_30) rfl kK) ?_
  show OGo p e below _ (s₁.setTop (mkF m 32 #[.val (.ref aS), .val (.int (0 : Int32)), .val (.int (2 : Int32)), .val (.long s1_), .second, .val (.int (1 : Int32)), .val (.int (1 : Int32)), .val (.int (1 : Int32)), .val (.long s1_), .second] [(.long s1_)]))
  refine OGo.step (fun uK kK => XS.lloadN X0.here hx rfl (hb hby d8_32) rfl kK) ?_
  show OGo p e below _ (s₁.setTop (mkF m 33 #[.val (.ref aS), .val (.int (0 : Int32)), .val (.int (2 : Int32)), .val (.long s1_), .second, .val (.int (1 : Int32)), .val (.int (1 : Int32)), .val (.int (1 : Int32)), .val (.long s1_), .second] [(.long s1_), (.long s1_)]))
  refine OGo.step (fun uK kK => XS.lcmp X0.here hx rfl (hb hby d8_33) rfl kK) ?_
  show OGo p e below _ (s₁.setTop (mkF m 34 #[.val (.ref aS), .val (.int (0 : Int32)), .val (.int (2 : Int32)), .val (.long s1_), .second, .val (.int (1 : Int32)), .val (.int (1 : Int32)), .val (.int (1 : Int32)), .val (.long s1_), .second] [(.int (lcmpW s1_ s1_))]))
  have hc34 : ¬ (s1_ < s1_) := own_lirr _
  refine OGo.step (fun uK kK => XS.ifYes X0.here hx rfl (pc0 := 34) (pc' := 46) rfl (hb hby d8_34) rfl ((if0 _ _).trans (flt (fun q => hc34 ((lw_lt _ _).mp q))).2.1) (by decide) (by decide) kK) ?_
  show OGo p e below _ (s₁.setTop (mkF m 46 #[.val (.ref aS), .val (.int (0 : Int32)), .val (.int (2 : Int32)), .val (.long s1_), .second, .val (.int (1 : Int32)), .val (.int (1 : Int32)), .val (.int (1 : Int32)), .val (.long s1_), .second] []))
  refine OGo.step (fun uK kK => XS.lload X0.here hx rfl (hb hby d8_46) rfl kK) ?_
  show OGo p e below _ (s₁.setTop (mkF m 48 #[.val (.ref aS), .val (.int (0 : Int32)), .val (.int (2 : Int32)), .val (.long s1_), .second, .val (.int (1 : Int32)), .val (.int (1 : Int32)), .val (.int (1 : Int32)), .val (.long s1_), .second] [(.long s1_)]))
  refine OGo.step (fun uK kK => XS.lloadN X0.here hx rfl (hb hby d8_48) rfl kK) ?_
  show OGo p e below _ (s₁.setTop (mkF m 49 #[.val (.ref aS), .val (.int (0 : Int32)), .val (.int (2 : Int32)), .val (.long s1_), .second, .val (.int (1 : Int32)), .val (.int (1 : Int32)), .val (.int (1 : Int32)), .val (.long s1_), .second] [(.long s1_), (.long s1_)]))
  refine OGo.step (fun uK kK => XS.lcmp X0.here hx rfl (hb hby d8_49) rfl kK) ?_
  show OGo p e below _ (s₁.setTop (mkF m 50 #[.val (.ref aS), .val (.int (0 : Int32)), .val (.int (2 : Int32)), .val (.long s1_), .second, .val (.int (1 : Int32)), .val (.int (1 : Int32)), .val (.int (1 : Int32)), .val (.long s1_), .second] [(.int (lcmpW s1_ s1_))]))
  have hc50 : ¬ (s1_ < s1_) := own_lirr _
  refine OGo.step (fun uK kK => XS.ifYes X0.here hx rfl (pc0 := 50) (pc' := 62) rfl (hb hby d8_50) rfl ((if0 _ _).trans (flt (fun q => hc50 ((lw_gt _ _).mp q))).2.2.2) (by decide) (by decide) kK) ?_
  show OGo p e below _ (s₁.setTop (mkF m 62 #[.val (.ref aS), .val (.int (0 : Int32)), .val (.int (2 : Int32)), .val (.long s1_), .second, .val (.int (1 : Int32)), .val (.int (1 : Int32)), .val (.int (1 : Int32)), .val (.long s1_), .second] []))
  refine OGo.step (fun uK kK => XS.iload X0.here hx rfl (hb hby d8_62) rfl kK) ?_
  show OGo p e below _ (s₁.setTop (mkF m 64 #[.val (.ref aS), .val (.int (0 : Int32)), .val (.int (2 : Int32)), .val (.long s1_), .second, .val (.int (1 : Int32)), .val (.int (1 : Int32)), .val (.int (1 : Int32)), .val (.long s1_), .second] [(.int (1 : Int32))]))
  exact OGo.retI X0 hx Bd.notSynchronized Bd.returns (hb hby d8_64) (by decide) (by decide) (by show Qz_t1 Z aS kS s0_ s1_ s2_ s3_ s4_ s5_ s6_ s7_ h0 n0 _ s₁.heap _; rw [e0]; exact ⟨rfl, N0, rfl⟩)
theorem pny_t1 : plainName "java/util/Arrays" = true := by first | (simp [plainName, overriddenIn]; done) | decide +kernel
theorem pdy_t1_0 : parseMethodDescriptor "(III)V" = some ⟨[.int, .int, .int], none⟩ := by decide +kernel
theorem pdy_t1_1 : parseMethodDescriptor "([JIIJ)I" = some ⟨[(.array .long), .int, .int, .long], some .int⟩ := by decide +kernel
theorem efy_t1 (m : MethodId) (x0 : Addr) (x1 : Int32) (x2 : Int32) (x3 : Int64) : entryFrame m #[(.ref x0), (.int x1), (.int x2), (.long x3)] 5 = mkF m 0 #[.val (.ref x0), .val (.int x1), .val (.int x2), .val (.long x3), .second] [] := by first | (simp [entryFrame, mkF, argsToLocals, Value.category]; done) | rfl
def Qy_t1 (Z : State) (aS : Addr) (kS : ClassId) (s0_ : Int64) (s1_ : Int64) (s2_ : Int64) (s3_ : Int64) (s4_ : Int64) (s5_ : Int64) (s6_ : Int64) (s7_ : Int64) (h0 : Heap) (n0 : Nat) (v : Option Value) (h : Heap) (L : List Loc) : Prop := v = some (.int (1 : Int32)) ∧ Fr n0 L ∧ h = h0
set_option maxRecDepth 65536 in
set_option maxHeartbeats 40000000 in
theorem rmy_t1 (l : Launch) (Z : State) (a0 : Array Value) (hw : ∀ d ∈ tables_1, d.before a0 Z = true) (ws : List Jvm.Cond) (aS : Addr) (kS : ClassId) (s0_ : Int64) (s1_ : Int64) (s2_ : Int64) (s3_ : Int64) (s4_ : Int64) (s5_ : Int64) (s6_ : Int64) (s7_ : Int64) (h0 : Heap) (n0 : Nat) (Z0 : n0 ≤ h0.size) (Vs : Arv Z h0 aS kS .long (8 : Int32) [(.long s0_), (.long s1_), (.long s2_), (.long s3_), (.long s4_), (.long s5_), (.long s6_), (.long s7_)] (.long (0 : Int64))) (hlt : s0_ < s1_) :
    MetFree l (⟨"java/util/Arrays", "binarySearch", "([JIIJ)I"⟩ : MethodName) (head1 (Jvm.Cond.code (⟨"java/util/Arrays", "binarySearch", "([JIIJ)I"⟩ : MethodName) jdk_65_method_55_code 5 (some .int) :: ws) ({ frames := 1, cells := 0, slots := 0, locals := 21 } : Room)) (fun aQ UQ => aQ = #[(.ref aS), (.int (0 : Int32)), (.int (2 : Int32)), (.long s1_)] ∧ Z.Warmed39 UQ.vm ∧ UQ.heap = h0) (fun _ _ _ _ _ => True) (fun _ U o U' => ∃ v L, o = .returned v ∧ Qy_t1 Z aS kS s0_ s1_ s2_ s3_ s4_ s5_ s6_ s7_ h0 n0 v U'.heap L ∧ FrameEnd U o U' L ({ frames := 1, cells := 0, slots := 0, locals := 21 } : Room).cells ({ frames := 1, cells := 0, slots := 0, locals := 21 } : Room).slots) := by
  refine MetFree.of_bodySF (plainFor_of_name pny_t1) hisR ?_
  intro p e s m args below meth c s₁ Bd hml0 hP hK
  obtain ⟨rfl, hZ, hh⟩ := hP
  have hx := Bd.exec
  have hby := Bd.bytes
  have hml : c.maxLocals = 5 := hml0
  have hown : s.vm.findClass "java/util/Arrays" = some m.cls := findClass_of_methodNamed Bd.named
  have hnm := (name_of_methodNamed Bd.named Bd.method).1
  have X0 : Stand p l e ({ frames := 1, cells := 0, slots := 0, locals := 21 } : Room) s m #[(.ref aS), (.int (0 : Int32)), (.int (2 : Int32)), (.long s1_)] below meth c s₁ [] 0 0 := Stand.of_body Bd
  have e0 : s₁.heap = h0 := by rw [← hh, Bd.state]; rfl
  have N0 := Fr.nil n0
  show OGo p e below (OPost s (Qy_t1 Z aS kS s0_ s1_ s2_ s3_ s4_ s5_ s6_ s7_ h0 n0) ({ frames := 1, cells := 0, slots := 0, locals := 21 } : Room).cells ({ frames := 1, cells := 0, slots := 0, locals := 21 } : Room).slots) (s₁.setTop (entryFrame m #[(.ref aS), (.int (0 : Int32)), (.int (2 : Int32)), (.long s1_)] 5))
  refine OGo.step (fun uK kK => castTop (efy_t1 m aS (0 : Int32) (2 : Int32) s1_) kK) ?_
  show OGo p e below _ (s₁.setTop (mkF m 0 #[.val (.ref aS), .val (.int (0 : Int32)), .val (.int (2 : Int32)), .val (.long s1_), .second] []))
  refine OGo.step (fun uK kK => XS.aloadN X0.here hx rfl (hb hby d6_0) rfl rfl kK) ?_
  show OGo p e below _ (s₁.setTop (mkF m 1 #[.val (.ref aS), .val (.int (0 : Int32)), .val (.int (2 : Int32)), .val (.long s1_), .second] [(.ref aS)]))
  obtain ⟨cl1, Ar1, -, S1, M1, -, -⟩ := id Vs
  refine OGo.step (fun uK kK => X0.arraylength hx (by rw [e0]; exact Ar1.1) (State.isArrayOf_alike hZ.alike Ar1.2.1) (g := (mkF m 1 #[.val (.ref aS), .val (.int (0 : Int32)), .val (.int (2 : Int32)), .val (.long s1_), .second] [(.ref aS)])) rfl rfl (hb hby d6_1) uK kK) ?_
  rw [len_of S1 M1]
  show OGo p e below _ (s₁.setTop (mkF m 2 #[.val (.ref aS), .val (.int (0 : Int32)), .val (.int (2 : Int32)), .val (.long s1_), .second] [(.int (8 : Int32))]))
  refine OGo.step (fun uK kK => XS.iloadN X0.here hx rfl (hb hby d6_2) rfl kK) ?_
  show OGo p e below _ (s₁.setTop (mkF m 3 #[.val (.ref aS), .val (.int (0 : Int32)), .val (.int (2 : Int32)), .val (.long s1_), .second] [(.int (0 : Int32)), (.int (8 : Int32))]))
  refine OGo.step (fun uK kK => XS.iloadN X0.here hx rfl (hb hby d6_3) rfl kK) ?_
  show OGo p e below _ (s₁.setTop (mkF m 4 #[.val (.ref aS), .val (.int (0 : Int32)), .val (.int (2 : Int32)), .val (.long s1_), .second] [(.int (2 : Int32)), (.int (0 : Int32)), (.int (8 : Int32))]))
  obtain ⟨_, _, ⟨T2, Lq2, kq_2, nq_2⟩, -, X2, ⟨Lc2, hQ2, lq2, yq2, zq2⟩, st2⟩ := Jvm.LawKit.callS X0 hx (y := (⟨"java/util/Arrays", "rangeCheck", "(III)V"⟩ : MethodName)) hown (mvT hZ (hw _ (List.mem_of_getElem? (i := 35) rfl))) (mvT hZ (hw _ (List.mem_of_getElem? (i := 36) rfl))) (mvT hZ (hw _ (List.mem_of_getElem? (i := 33) rfl))) (mvT hZ (hw _ (List.mem_of_getElem? (i := 37) rfl))) (by decide) (backOf (W := 0) (rmrc l Z a0 hw [] (8 : Int32) (0 : Int32) (2 : Int32)  h0 n0 Z0 (by decide) (by decide) (by decide)) hZ (hw _ (List.mem_of_getElem? (i := 37) rfl)) (hw _ (List.mem_of_getElem? (i := 33) rfl)) (by decide) (by decide)) (g := (mkF m 4 #[.val (.ref aS), .val (.int (0 : Int32)), .val (.int (2 : Int32)), .val (.long s1_), .second] [(.int (2 : Int32)), (.int (0 : Int32)), (.int (8 : Int32))])) rfl (by rw [hml]; rfl) (argsL := [(.int (8 : Int32)), (.int (0 : Int32)), (.int (2 : Int32))]) (rest := []) (lenOf pdy_t1_0 rfl) rfl (by show 2 * 0 + _ ≤ _; exact Nat.le_of_eq rfl) (hb hby d6_4) (fun _ _ => ⟨rfl, e0, (by decide : 0 + 0 ≤ _), (by decide : 0 + 0 ≤ _)⟩)
  dsimp only [Pt.U, Pt.locs, Pt.cells, Pt.slots] at X2 lq2 yq2 zq2 st2 hQ2
  subst lq2 yq2 zq2
  obtain ⟨rfl, Nq2, e2⟩ := hQ2
  have N2 := Fr.app N0 Nq2
  refine OGo.step (fun uK kK => st2 uK kK) ?_
  show OGo p e below _ (T2.setTop (mkF m 7 #[.val (.ref aS), .val (.int (0 : Int32)), .val (.int (2 : Int32)), .val (.long s1_), .second] []))
  refine OGo.step (fun uK kK => XS.aloadN X2.here hx rfl (hb hby d6_7) rfl rfl kK) ?_
  show OGo p e below _ (T2.setTop (mkF m 8 #[.val (.ref aS), .val (.int (0 : Int32)), .val (.int (2 : Int32)), .val (.long s1_), .second] [(.ref aS)]))
  refine OGo.step (fun uK kK => XS.iloadN X2.here hx rfl (hb hby d6_8) rfl kK) ?_
  show OGo p e below _ (T2.setTop (mkF m 9 #[.val (.ref aS), .val (.int (0 : Int32)), .val (.int (2 : Int32)), .val (.long s1_), .second] [(.int (0 : Int32)), (.ref aS)]))
  refine OGo.step (fun uK kK => XS.iloadN X2.here hx rfl (hb hby d6_9) rfl kK) ?_
  show OGo p e below _ (T2.setTop (mkF m 10 #[.val (.ref aS), .val (.int (0 : Int32)), .val (.int (2 : Int32)), .val (.long s1_), .second] [(.int (2 : Int32)), (.int (0 : Int32)), (.ref aS)]))
  refine OGo.step (fun uK kK => XS.lloadN X2.here hx rfl (hb hby d6_10) rfl kK) ?_
  show OGo p e below _ (T2.setTop (mkF m 11 #[.val (.ref aS), .val (.int (0 : Int32)), .val (.int (2 : Int32)), .val (.long s1_), .second] [(.long s1_), (.int (2 : Int32)), (.int (0 : Int32)), (.ref aS)]))
  obtain ⟨_, _, ⟨T3, Lq3, kq_3, nq_3⟩, -, X3, ⟨Lc3, hQ3, lq3, yq3, zq3⟩, st3⟩ := Jvm.LawKit.callS X2 hx (y := (⟨"java/util/Arrays", "binarySearch0", "([JIIJ)I"⟩ : MethodName)) hown (mvT hZ (hw _ (List.mem_of_getElem? (i := 38) rfl))) (mvT hZ (hw _ (List.mem_of_getElem? (i := 39) rfl))) (mvT hZ (hw _ (List.mem_of_getElem? (i := 33) rfl))) (mvT hZ (hw _ (List.mem_of_getElem? (i := 40) rfl))) (by decide) (backOf (W := 0) (rmz_t1 l Z a0 hw [] aS kS s0_ s1_ s2_ s3_ s4_ s5_ s6_ s7_ h0 n0 Z0 Vs hlt) hZ (hw _ (List.mem_of_getElem? (i := 40) rfl)) (hw _ (List.mem_of_getElem? (i := 33) rfl)) (by decide) (by decide)) (g := (mkF m 11 #[.val (.ref aS), .val (.int (0 : Int32)), .val (.int (2 : Int32)), .val (.long s1_), .second] [(.long s1_), (.int (2 : Int32)), (.int (0 : Int32)), (.ref aS)])) rfl (by rw [hml]; rfl) (argsL := [(.ref aS), (.int (0 : Int32)), (.int (2 : Int32)), (.long s1_)]) (rest := []) (lenOf pdy_t1_1 rfl) rfl (by show 2 * 0 + _ ≤ _; exact Nat.le_of_eq rfl) (hb hby d6_11) (fun _ _ => ⟨rfl, e2, (by decide : 0 + 0 ≤ _), (by decide : 0 + 0 ≤ _)⟩)
  dsimp only [Pt.U, Pt.locs, Pt.cells, Pt.slots] at X3 lq3 yq3 zq3 st3 hQ3
  subst lq3 yq3 zq3
  obtain ⟨rfl, Nq3, e3⟩ := hQ3
  have N3 := Fr.app N2 Nq3
  refine OGo.step (fun uK kK => st3 uK kK) ?_
  show OGo p e below _ (T3.setTop (mkF m 14 #[.val (.ref aS), .val (.int (0 : Int32)), .val (.int (2 : Int32)), .val (.long s1_), .second] [(.int (1 : Int32))]))
  exact OGo.retI X3 hx Bd.notSynchronized Bd.returns (hb hby d6_14) (by decide) (by decide) (by show Qy_t1 Z aS kS s0_ s1_ s2_ s3_ s4_ s5_ s6_ s7_ h0 n0 _ T3.heap _; rw [e3]; exact ⟨rfl, N3, rfl⟩)
theorem pnx_t1 : plainName "com/example/graph_of_conflicts/graphofconflicts/engine/OpenSnapshots" = true := by first | (simp [plainName, overriddenIn]; done) | decide +kernel
theorem pdx_t1_0 : parseMethodDescriptor "([JIIJ)I" = some ⟨[(.array .long), .int, .int, .long], some .int⟩ := by decide +kernel
theorem efx_t1 (m : MethodId) (x0 : Addr) (x1 : Int64) : entryFrame m #[(.ref x0), (.long x1)] 3 = mkF m 0 #[.val (.ref x0), .val (.long x1), .second] [] := by first | (simp [entryFrame, mkF, argsToLocals, Value.category]; done) | rfl
def Qx_t1 (Z : State) (a : Addr) (aS : Addr) (kS : ClassId) (s0_ : Int64) (s1_ : Int64) (s2_ : Int64) (s3_ : Int64) (s4_ : Int64) (s5_ : Int64) (s6_ : Int64) (s7_ : Int64) (h0 : Heap) (n0 : Nat) (v : Option Value) (h : Heap) (L : List Loc) : Prop := v = some (.int (1 : Int32)) ∧ Fr n0 L ∧ h = h0
set_option maxRecDepth 65536 in
set_option maxHeartbeats 40000000 in
theorem rmx_t1 (l : Launch) (Z : State) (a0 : Array Value) (hw : ∀ d ∈ tables_1, d.before a0 Z = true) (ws : List Jvm.Cond) (a : Addr) (aS : Addr) (kS : ClassId) (s0_ : Int64) (s1_ : Int64) (s2_ : Int64) (s3_ : Int64) (s4_ : Int64) (s5_ : Int64) (s6_ : Int64) (s7_ : Int64) (h0 : Heap) (n0 : Nat) (Z0 : n0 ≤ h0.size) (Fs : Fld Z h0 a "com/example/graph_of_conflicts/graphofconflicts/engine/OpenSnapshots" "snapshots" "[J" (.ref aS)) (Fn : Fld Z h0 a "com/example/graph_of_conflicts/graphofconflicts/engine/OpenSnapshots" "size" "I" (.int (2 : Int32))) (Vs : Arv Z h0 aS kS .long (8 : Int32) [(.long s0_), (.long s1_), (.long s2_), (.long s3_), (.long s4_), (.long s5_), (.long s6_), (.long s7_)] (.long (0 : Int64))) (hlt : s0_ < s1_) :
    MetFree l (⟨"com/example/graph_of_conflicts/graphofconflicts/engine/OpenSnapshots", "indexOf", "(J)I"⟩ : MethodName) (head1 (Jvm.Cond.code (⟨"com/example/graph_of_conflicts/graphofconflicts/engine/OpenSnapshots", "indexOf", "(J)I"⟩ : MethodName) prog_55_method_6_code 3 (some .int) :: ws) ({ frames := 2, cells := 0, slots := 0, locals := 37 } : Room)) (fun aQ UQ => aQ = #[(.ref a), (.long s1_)] ∧ Z.Warmed39 UQ.vm ∧ UQ.heap = h0) (fun _ _ _ _ _ => True) (fun _ U o U' => ∃ v L, o = .returned v ∧ Qx_t1 Z a aS kS s0_ s1_ s2_ s3_ s4_ s5_ s6_ s7_ h0 n0 v U'.heap L ∧ FrameEnd U o U' L ({ frames := 2, cells := 0, slots := 0, locals := 37 } : Room).cells ({ frames := 2, cells := 0, slots := 0, locals := 37 } : Room).slots) := by
  refine MetFree.of_bodySF (plainFor_of_name pnx_t1) hisR ?_
  intro p e s m args below meth c s₁ Bd hml0 hP hK
  obtain ⟨rfl, hZ, hh⟩ := hP
  have hx := Bd.exec
  have hby := Bd.bytes
  have hml : c.maxLocals = 3 := hml0
  have hown : s.vm.findClass "com/example/graph_of_conflicts/graphofconflicts/engine/OpenSnapshots" = some m.cls := findClass_of_methodNamed Bd.named
  have hnm := (name_of_methodNamed Bd.named Bd.method).1
  have X0 : Stand p l e ({ frames := 2, cells := 0, slots := 0, locals := 37 } : Room) s m #[(.ref a), (.long s1_)] below meth c s₁ [] 0 0 := Stand.of_body Bd
  have e0 : s₁.heap = h0 := by rw [← hh, Bd.state]; rfl
  have N0 := Fr.nil n0
  show OGo p e below (OPost s (Qx_t1 Z a aS kS s0_ s1_ s2_ s3_ s4_ s5_ s6_ s7_ h0 n0) ({ frames := 2, cells := 0, slots := 0, locals := 37 } : Room).cells ({ frames := 2, cells := 0, slots := 0, locals := 37 } : Room).slots) (s₁.setTop (entryFrame m #[(.ref a), (.long s1_)] 3))
  refine OGo.step (fun uK kK => castTop (efx_t1 m a s1_) kK) ?_
  show OGo p e below _ (s₁.setTop (mkF m 0 #[.val (.ref a), .val (.long s1_), .second] []))
  refine OGo.step (fun uK kK => XS.aloadN X0.here hx rfl (hb hby d5_0) rfl rfl kK) ?_
  show OGo p e below _ (s₁.setTop (mkF m 1 #[.val (.ref a), .val (.long s1_), .second] [(.ref a)]))
  obtain ⟨T1, X1, e1, st1⟩ := getF X0 hx hZ hown (host := "") (Or.inl (hw _ (List.mem_of_getElem? (i := 15) rfl))) Via.refl e0 Fs (g := (mkF m 1 #[.val (.ref a), .val (.long s1_), .second] [(.ref a)])) rfl rfl (hb hby d5_1)
  refine OGo.step (fun uK kK => st1 uK kK) ?_
  show OGo p e below _ (T1.setTop (mkF m 4 #[.val (.ref a), .val (.long s1_), .second] [(.ref aS)]))
  refine OGo.step (fun uK kK => XS.iconst X1.here hx rfl (hb hby d5_4) kK) ?_
  show OGo p e below _ (T1.setTop (mkF m 5 #[.val (.ref a), .val (.long s1_), .second] [(.int (0 : Int32)), (.ref aS)]))
  refine OGo.step (fun uK kK => XS.aloadN X1.here hx rfl (hb hby d5_5) rfl rfl kK) ?_
  show OGo p e below _ (T1.setTop (mkF m 6 #[.val (.ref a), .val (.long s1_), .second] [(.ref a), (.int (0 : Int32)), (.ref aS)]))
  obtain ⟨T2, X2, e2, st2⟩ := getF X1 hx hZ hown (host := "") (Or.inl (hw _ (List.mem_of_getElem? (i := 29) rfl))) Via.refl e1 Fn (g := (mkF m 6 #[.val (.ref a), .val (.long s1_), .second] [(.ref a), (.int (0 : Int32)), (.ref aS)])) rfl rfl (hb hby d5_6)
  refine OGo.step (fun uK kK => st2 uK kK) ?_
  show OGo p e below _ (T2.setTop (mkF m 9 #[.val (.ref a), .val (.long s1_), .second] [(.int (2 : Int32)), (.int (0 : Int32)), (.ref aS)]))
  refine OGo.step (fun uK kK => XS.lloadN X2.here hx rfl (hb hby d5_9) rfl kK) ?_
  show OGo p e below _ (T2.setTop (mkF m 10 #[.val (.ref a), .val (.long s1_), .second] [(.long s1_), (.int (2 : Int32)), (.int (0 : Int32)), (.ref aS)]))
  obtain ⟨_, _, ⟨T3, Lq3, kq_3, nq_3⟩, -, X3, ⟨Lc3, hQ3, lq3, yq3, zq3⟩, st3⟩ := Jvm.LawKit.callS X2 hx (y := (⟨"java/util/Arrays", "binarySearch", "([JIIJ)I"⟩ : MethodName)) hown (mvT hZ (hw _ (List.mem_of_getElem? (i := 31) rfl))) (mvT hZ (hw _ (List.mem_of_getElem? (i := 32) rfl))) (mvT hZ (hw _ (List.mem_of_getElem? (i := 33) rfl))) (mvT hZ (hw _ (List.mem_of_getElem? (i := 34) rfl))) (by decide) (backOf (W := 0) (rmy_t1 l Z a0 hw [] aS kS s0_ s1_ s2_ s3_ s4_ s5_ s6_ s7_ h0 n0 Z0 Vs hlt) hZ (hw _ (List.mem_of_getElem? (i := 34) rfl)) (hw _ (List.mem_of_getElem? (i := 33) rfl)) (by decide) (by decide)) (g := (mkF m 10 #[.val (.ref a), .val (.long s1_), .second] [(.long s1_), (.int (2 : Int32)), (.int (0 : Int32)), (.ref aS)])) rfl (by rw [hml]; rfl) (argsL := [(.ref aS), (.int (0 : Int32)), (.int (2 : Int32)), (.long s1_)]) (rest := []) (lenOf pdx_t1_0 rfl) rfl (by show 2 * 0 + _ ≤ _; exact Nat.le_of_eq rfl) (hb hby d5_10) (fun _ _ => ⟨rfl, e2, (by decide : 0 + 0 ≤ _), (by decide : 0 + 0 ≤ _)⟩)
  dsimp only [Pt.U, Pt.locs, Pt.cells, Pt.slots] at X3 lq3 yq3 zq3 st3 hQ3
  subst lq3 yq3 zq3
  obtain ⟨rfl, Nq3, e3⟩ := hQ3
  have N3 := Fr.app N0 Nq3
  refine OGo.step (fun uK kK => st3 uK kK) ?_
  show OGo p e below _ (T3.setTop (mkF m 13 #[.val (.ref a), .val (.long s1_), .second] [(.int (1 : Int32))]))
  exact OGo.retI X3 hx Bd.notSynchronized Bd.returns (hb hby d5_13) (by decide) (by decide) (by show Qx_t1 Z a aS kS s0_ s1_ s2_ s3_ s4_ s5_ s6_ s7_ h0 n0 _ T3.heap _; rw [e3]; exact ⟨rfl, N3, rfl⟩)
theorem d4_0 : decode prog_55_method_2_code 0 = .ok (.aload_n 0, 1) := by decide +kernel
theorem d4_1 : decode prog_55_method_2_code 1 = .ok (.lload_n 1, 1) := by decide +kernel
theorem d4_2 : decode prog_55_method_2_code 2 = .ok (.invokevirtual 17, 3) := by decide +kernel
theorem d4_5 : decode prog_55_method_2_code 5 = .ok (.istore_n 3, 1) := by decide +kernel
theorem d4_6 : decode prog_55_method_2_code 6 = .ok (.iload_n 3, 1) := by decide +kernel
theorem d4_7 : decode prog_55_method_2_code 7 = .ok (.ifCond .lt 14, 3) := by decide +kernel
theorem d4_21 : decode prog_55_method_2_code 21 = .ok (.iload_n 3, 1) := by decide +kernel
theorem d4_22 : decode prog_55_method_2_code 22 = .ok (.ineg, 1) := by decide +kernel
theorem d4_23 : decode prog_55_method_2_code 23 = .ok (.iconst 1, 1) := by decide +kernel
theorem d4_24 : decode prog_55_method_2_code 24 = .ok (.isub, 1) := by decide +kernel
theorem d4_25 : decode prog_55_method_2_code 25 = .ok (.istore 4, 2) := by decide +kernel
theorem d4_27 : decode prog_55_method_2_code 27 = .ok (.aload_n 0, 1) := by decide +kernel
theorem d4_28 : decode prog_55_method_2_code 28 = .ok (.getfield 21, 3) := by decide +kernel
theorem d4_31 : decode prog_55_method_2_code 31 = .ok (.aload_n 0, 1) := by decide +kernel
theorem d4_32 : decode prog_55_method_2_code 32 = .ok (.getfield 7, 3) := by decide +kernel
theorem d4_35 : decode prog_55_method_2_code 35 = .ok (.arraylength, 1) := by decide +kernel
theorem d4_36 : decode prog_55_method_2_code 36 = .ok (.if_icmp .ne 37, 3) := by decide +kernel
theorem d4_73 : decode prog_55_method_2_code 73 = .ok (.aload_n 0, 1) := by decide +kernel
theorem d4_74 : decode prog_55_method_2_code 74 = .ok (.getfield 7, 3) := by decide +kernel
theorem d4_77 : decode prog_55_method_2_code 77 = .ok (.iload 4, 2) := by decide +kernel
theorem d4_79 : decode prog_55_method_2_code 79 = .ok (.aload_n 0, 1) := by decide +kernel
theorem d4_80 : decode prog_55_method_2_code 80 = .ok (.getfield 7, 3) := by decide +kernel
theorem d4_83 : decode prog_55_method_2_code 83 = .ok (.iload 4, 2) := by decide +kernel
theorem d4_85 : decode prog_55_method_2_code 85 = .ok (.iconst 1, 1) := by decide +kernel
theorem d4_86 : decode prog_55_method_2_code 86 = .ok (.iadd, 1) := by decide +kernel
theorem d4_87 : decode prog_55_method_2_code 87 = .ok (.aload_n 0, 1) := by decide +kernel
theorem d4_88 : decode prog_55_method_2_code 88 = .ok (.getfield 21, 3) := by decide +kernel
theorem d4_91 : decode prog_55_method_2_code 91 = .ok (.iload 4, 2) := by decide +kernel
theorem d4_93 : decode prog_55_method_2_code 93 = .ok (.isub, 1) := by decide +kernel
theorem d4_94 : decode prog_55_method_2_code 94 = .ok (.invokestatic 34, 3) := by decide +kernel
theorem d4_97 : decode prog_55_method_2_code 97 = .ok (.aload_n 0, 1) := by decide +kernel
theorem d4_98 : decode prog_55_method_2_code 98 = .ok (.getfield 13, 3) := by decide +kernel
theorem d4_101 : decode prog_55_method_2_code 101 = .ok (.iload 4, 2) := by decide +kernel
theorem d4_103 : decode prog_55_method_2_code 103 = .ok (.aload_n 0, 1) := by decide +kernel
theorem d4_104 : decode prog_55_method_2_code 104 = .ok (.getfield 13, 3) := by decide +kernel
theorem d4_107 : decode prog_55_method_2_code 107 = .ok (.iload 4, 2) := by decide +kernel
theorem d4_109 : decode prog_55_method_2_code 109 = .ok (.iconst 1, 1) := by decide +kernel
theorem d4_110 : decode prog_55_method_2_code 110 = .ok (.iadd, 1) := by decide +kernel
theorem d4_111 : decode prog_55_method_2_code 111 = .ok (.aload_n 0, 1) := by decide +kernel
theorem d4_112 : decode prog_55_method_2_code 112 = .ok (.getfield 21, 3) := by decide +kernel
theorem d4_115 : decode prog_55_method_2_code 115 = .ok (.iload 4, 2) := by decide +kernel
theorem d4_117 : decode prog_55_method_2_code 117 = .ok (.isub, 1) := by decide +kernel
theorem d4_118 : decode prog_55_method_2_code 118 = .ok (.invokestatic 34, 3) := by decide +kernel
theorem d4_121 : decode prog_55_method_2_code 121 = .ok (.aload_n 0, 1) := by decide +kernel
theorem d4_122 : decode prog_55_method_2_code 122 = .ok (.getfield 7, 3) := by decide +kernel
theorem d4_125 : decode prog_55_method_2_code 125 = .ok (.iload 4, 2) := by decide +kernel
theorem d4_127 : decode prog_55_method_2_code 127 = .ok (.lload_n 1, 1) := by decide +kernel
theorem d4_128 : decode prog_55_method_2_code 128 = .ok (.lastore, 1) := by decide +kernel
theorem d4_129 : decode prog_55_method_2_code 129 = .ok (.aload_n 0, 1) := by decide +kernel
theorem d4_130 : decode prog_55_method_2_code 130 = .ok (.getfield 13, 3) := by decide +kernel
theorem d4_133 : decode prog_55_method_2_code 133 = .ok (.iload 4, 2) := by decide +kernel
theorem d4_135 : decode prog_55_method_2_code 135 = .ok (.iconst 1, 1) := by decide +kernel
theorem d4_136 : decode prog_55_method_2_code 136 = .ok (.iastore, 1) := by decide +kernel
theorem d4_137 : decode prog_55_method_2_code 137 = .ok (.aload_n 0, 1) := by decide +kernel
theorem d4_138 : decode prog_55_method_2_code 138 = .ok (.dup, 1) := by decide +kernel
theorem d4_139 : decode prog_55_method_2_code 139 = .ok (.getfield 21, 3) := by decide +kernel
theorem d4_142 : decode prog_55_method_2_code 142 = .ok (.iconst 1, 1) := by decide +kernel
theorem d4_143 : decode prog_55_method_2_code 143 = .ok (.iadd, 1) := by decide +kernel
theorem d4_144 : decode prog_55_method_2_code 144 = .ok (.putfield 21, 3) := by decide +kernel
theorem d4_147 : decode prog_55_method_2_code 147 = .ok (.return_, 1) := by decide +kernel
theorem pna0 : plainName "com/example/graph_of_conflicts/graphofconflicts/engine/OpenSnapshots" = true := by first | (simp [plainName, overriddenIn]; done) | decide +kernel
theorem pda0_0 : parseMethodDescriptor "(J)I" = some ⟨[.long], some .int⟩ := by decide +kernel
theorem efa0 (m : MethodId) (x0 : Addr) (x1 : Int64) : entryFrame m #[(.ref x0), (.long x1)] 5 = mkF m 0 #[.val (.ref x0), .val (.long x1), .second, .unset, .unset] [] := by first | (simp [entryFrame, mkF, argsToLocals, Value.category]; done) | rfl
def Qa0 (Z : State) (a : Addr) (aS : Addr) (kS : ClassId) (s0_ : Int64) (s1_ : Int64) (s2_ : Int64) (s3_ : Int64) (s4_ : Int64) (s5_ : Int64) (s6_ : Int64) (s7_ : Int64) (aH : Addr) (kH : ClassId) (k0_ : Int32) (k1_ : Int32) (k2_ : Int32) (k3_ : Int32) (k4_ : Int32) (k5_ : Int32) (k6_ : Int32) (k7_ : Int32) (q9 : Int64) (h0 : Heap) (n0 : Nat) (v : Option Value) (h : Heap) (L : List Loc) : Prop := v = none ∧ Fr n0 L ∧ Keep h0 h [a, aS, aH] ∧ Fld Z h a "com/example/graph_of_conflicts/graphofconflicts/engine/OpenSnapshots" "snapshots" "[J" (.ref aS) ∧ Fld Z h a "com/example/graph_of_conflicts/graphofconflicts/engine/OpenSnapshots" "holders" "[I" (.ref aH) ∧ Fld Z h a "com/example/graph_of_conflicts/graphofconflicts/engine/OpenSnapshots" "size" "I" (.int (1 : Int32)) ∧ Arv Z h aS kS .long (8 : Int32) [(.long q9), (.long s1_), (.long s2_), (.long s3_), (.long s4_), (.long s5_), (.long s6_), (.long s7_)] (.long (0 : Int64)) ∧ Arv Z h aH kH .int (8 : Int32) [(.int (1 : Int32)), (.int k1_), (.int k2_), (.int k3_), (.int k4_), (.int k5_), (.int k6_), (.int k7_)] (.int (0 : Int32))
set_option maxRecDepth 65536 in
set_option maxHeartbeats 40000000 in
theorem rma0 (l : Launch) (Z : State) (a0 : Array Value) (hw : ∀ d ∈ tables_1, d.before a0 Z = true) (ws : List Jvm.Cond) (a : Addr) (aS : Addr) (kS : ClassId) (s0_ : Int64) (s1_ : Int64) (s2_ : Int64) (s3_ : Int64) (s4_ : Int64) (s5_ : Int64) (s6_ : Int64) (s7_ : Int64) (aH : Addr) (kH : ClassId) (k0_ : Int32) (k1_ : Int32) (k2_ : Int32) (k3_ : Int32) (k4_ : Int32) (k5_ : Int32) (k6_ : Int32) (k7_ : Int32) (q9 : Int64) (h0 : Heap) (n0 : Nat) (Z0 : n0 ≤ h0.size) (Fs : Fld Z h0 a "com/example/graph_of_conflicts/graphofconflicts/engine/OpenSnapshots" "snapshots" "[J" (.ref aS)) (Fh : Fld Z h0 a "com/example/graph_of_conflicts/graphofconflicts/engine/OpenSnapshots" "holders" "[I" (.ref aH)) (Fn : Fld Z h0 a "com/example/graph_of_conflicts/graphofconflicts/engine/OpenSnapshots" "size" "I" (.int (0 : Int32))) (Vs : Arv Z h0 aS kS .long (8 : Int32) [(.long s0_), (.long s1_), (.long s2_), (.long s3_), (.long s4_), (.long s5_), (.long s6_), (.long s7_)] (.long (0 : Int64))) (Vh : Arv Z h0 aH kH .int (8 : Int32) [(.int k0_), (.int k1_), (.int k2_), (.int k3_), (.int k4_), (.int k5_), (.int k6_), (.int k7_)] (.int (0 : Int32))) (Ex : Exa Z h0 a "com/example/graph_of_conflicts/graphofconflicts/engine/OpenSnapshots") (ga : n0 ≤ a) (gS : n0 ≤ aS) (gH : n0 ≤ aH) (neS : a ≠ aS) (neH : a ≠ aH) (neSH : aS ≠ aH) :
    MetFree l (⟨"com/example/graph_of_conflicts/graphofconflicts/engine/OpenSnapshots", "add", "(J)V"⟩ : MethodName) (head1 (Jvm.Cond.code (⟨"com/example/graph_of_conflicts/graphofconflicts/engine/OpenSnapshots", "add", "(J)V"⟩ : MethodName) prog_55_method_2_code 5 none :: ws) ({ frames := 3, cells := 0, slots := 0, locals := 63 } : Room)) (fun aQ UQ => aQ = #[(.ref a), (.long q9)] ∧ Z.Warmed39 UQ.vm ∧ UQ.heap = h0) (fun _ _ _ _ _ => True) (fun _ U o U' => ∃ v L, o = .returned v ∧ Qa0 Z a aS kS s0_ s1_ s2_ s3_ s4_ s5_ s6_ s7_ aH kH k0_ k1_ k2_ k3_ k4_ k5_ k6_ k7_ q9 h0 n0 v U'.heap L ∧ FrameEnd U o U' L ({ frames := 3, cells := 0, slots := 0, locals := 63 } : Room).cells ({ frames := 3, cells := 0, slots := 0, locals := 63 } : Room).slots) := by
  refine MetFree.of_bodySF (plainFor_of_name pna0) hisR ?_
  intro p e s m args below meth c s₁ Bd hml0 hP hK
  obtain ⟨rfl, hZ, hh⟩ := hP
  have hx := Bd.exec
  have hby := Bd.bytes
  have hml : c.maxLocals = 5 := hml0
  have hown : s.vm.findClass "com/example/graph_of_conflicts/graphofconflicts/engine/OpenSnapshots" = some m.cls := findClass_of_methodNamed Bd.named
  have hnm := (name_of_methodNamed Bd.named Bd.method).1
  have X0 : Stand p l e ({ frames := 3, cells := 0, slots := 0, locals := 63 } : Room) s m #[(.ref a), (.long q9)] below meth c s₁ [] 0 0 := Stand.of_body Bd
  have e0 : s₁.heap = h0 := by rw [← hh, Bd.state]; rfl
  have N0 := Fr.nil n0
  show OGo p e below (OPost s (Qa0 Z a aS kS s0_ s1_ s2_ s3_ s4_ s5_ s6_ s7_ aH kH k0_ k1_ k2_ k3_ k4_ k5_ k6_ k7_ q9 h0 n0) ({ frames := 3, cells := 0, slots := 0, locals := 63 } : Room).cells ({ frames := 3, cells := 0, slots := 0, locals := 63 } : Room).slots) (s₁.setTop (entryFrame m #[(.ref a), (.long q9)] 5))
  refine OGo.step (fun uK kK => castTop (efa0 m a q9) kK) ?_
  show OGo p e below _ (s₁.setTop (mkF m 0 #[.val (.ref a), .val (.long q9), .second, .unset, .unset] []))
  refine OGo.step (fun uK kK => XS.aloadN X0.here hx rfl (hb hby d4_0) rfl rfl kK) ?_
  show OGo p e below _ (s₁.setTop (mkF m 1 #[.val (.ref a), .val (.long q9), .second, .unset, .unset] [(.ref a)]))
  refine OGo.step (fun uK kK => XS.lloadN X0.here hx rfl (hb hby d4_1) rfl kK) ?_
  show OGo p e below _ (s₁.setTop (mkF m 2 #[.val (.ref a), .val (.long q9), .second, .unset, .unset] [(.long q9), (.ref a)]))
  obtain ⟨cq1, qc1, qd1⟩ := Ex.cell
  obtain ⟨_, _, ⟨T1, Lq1, kq_1, nq_1⟩, -, X1, ⟨Lc1, hQ1, lq1, yq1, zq1⟩, st1⟩ := X0.privateBack hx (y := (⟨"com/example/graph_of_conflicts/graphofconflicts/engine/OpenSnapshots", "indexOf", "(J)I"⟩ : MethodName)) hown (mvT hZ (hw _ (List.mem_of_getElem? (i := 25) rfl))) (mvT hZ (hw _ (List.mem_of_getElem? (i := 26) rfl))) (own_selP (mvT hZ (hw _ (List.mem_of_getElem? (i := 6) rfl))) (mvP hZ (hw _ (List.mem_of_getElem? (i := 27) rfl))) (mvT hZ (hw _ (List.mem_of_getElem? (i := 26) rfl))) (by decide)) (Cond.privateMethod_at (mvP hZ (hw _ (List.mem_of_getElem? (i := 27) rfl)) (args := #[]))) (mvT hZ (hw _ (List.mem_of_getElem? (i := 28) rfl))) (by decide) (backOf (W := 0) (rmx_e l Z a0 hw [] a aS kS s0_ s1_ s2_ s3_ s4_ s5_ s6_ s7_ q9 h0 n0 Z0 Fs Fn Vs) hZ (hw _ (List.mem_of_getElem? (i := 28) rfl)) (hw _ (List.mem_of_getElem? (i := 7) rfl)) (by decide) (by decide)) (g := (mkF m 2 #[.val (.ref a), .val (.long q9), .second, .unset, .unset] [(.long q9), (.ref a)])) rfl (by rw [hml]; rfl) (Steps.refl _) (a := a) (by rw [e0]; exact qc1) qd1 (argsL := [(.long q9)]) (rest := []) (lenOf pda0_0 rfl) rfl (by show 2 * 0 + _ ≤ _; exact Nat.le_of_eq rfl) (hb hby d4_2) (fun _ _ => ⟨rfl, e0, (by decide : 0 + 0 ≤ _), (by decide : 0 + 0 ≤ _)⟩)
  dsimp only [Pt.U, Pt.locs, Pt.cells, Pt.slots] at X1 lq1 yq1 zq1 st1 hQ1
  subst lq1 yq1 zq1
  obtain ⟨rfl, Nq1, e1⟩ := hQ1
  have N1 := Fr.app N0 Nq1
  refine OGo.steps st1 ?_
  show OGo p e below _ (T1.setTop (mkF m 5 #[.val (.ref a), .val (.long q9), .second, .unset, .unset] [(.int (-1 : Int32))]))
  refine OGo.step (fun uK kK => XS.istoreN X1.here hx rfl (hb hby d4_5) rfl (l' := #[.val (.ref a), .val (.long q9), .second, .val (.int (-1 : Int32)), .unset]) rfl kK) ?_
  show OGo p e below _ (T1.setTop (mkF m 6 #[.val (.ref a), .val (.long q9), .second, .val (.int (-1 : Int32)), .unset] []))
  refine OGo.step (fun uK kK => XS.iloadN X1.here hx rfl (hb hby d4_6) rfl kK) ?_
  show OGo p e below _ (T1.setTop (mkF m 7 #[.val (.ref a), .val (.long q9), .second, .val (.int (-1 : Int32)), .unset] [(.int (-1 : Int32))]))
  have hc7 : (-1 : Int32) < (0 : Int32) := by decide
  refine OGo.step (fun uK kK => XS.ifYes X1.here hx rfl (pc0 := 7) (pc' := 21) rfl (hb hby d4_7) rfl ((if0 _ _).trans (tlt hc7).1) (by decide) (by decide) kK) ?_
  show OGo p e below _ (T1.setTop (mkF m 21 #[.val (.ref a), .val (.long q9), .second, .val (.int (-1 : Int32)), .unset] []))
  refine OGo.step (fun uK kK => XS.iloadN X1.here hx rfl (hb hby d4_21) rfl kK) ?_
  show OGo p e below _ (T1.setTop (mkF m 22 #[.val (.ref a), .val (.long q9), .second, .val (.int (-1 : Int32)), .unset] [(.int (-1 : Int32))]))
  refine OGo.step (fun uK kK => XS.ineg X1.here hx rfl (hb hby d4_22) rfl kK) ?_
  show OGo p e below _ (T1.setTop (mkF m 23 #[.val (.ref a), .val (.long q9), .second, .val (.int (-1 : Int32)), .unset] [(.int (-(-1 : Int32)))]))
  have ez2 : (-(-1 : Int32)) = (1 : Int32) := by decide
  rw [ez2]
  show OGo p e below _ (T1.setTop (mkF m 23 #[.val (.ref a), .val (.long q9), .second, .val (.int (-1 : Int32)), .unset] [(.int (1 : Int32))]))
  refine OGo.step (fun uK kK => XS.iconst X1.here hx rfl (hb hby d4_23) kK) ?_
  show OGo p e below _ (T1.setTop (mkF m 24 #[.val (.ref a), .val (.long q9), .second, .val (.int (-1 : Int32)), .unset] [(.int (1 : Int32)), (.int (1 : Int32))]))
  refine OGo.step (fun uK kK => XS.isub X1.here hx rfl (hb hby d4_24) rfl kK) ?_
  show OGo p e below _ (T1.setTop (mkF m 25 #[.val (.ref a), .val (.long q9), .second, .val (.int (-1 : Int32)), .unset] [(.int ((1 : Int32) - (1 : Int32)))]))
  have ez3 : ((1 : Int32) - (1 : Int32)) = (0 : Int32) := by decide
  rw [ez3]
  show OGo p e below _ (T1.setTop (mkF m 25 #[.val (.ref a), .val (.long q9), .second, .val (.int (-1 : Int32)), .unset] [(.int (0 : Int32))]))
  refine OGo.step (fun uK kK => XS.istore X1.here hx rfl (hb hby d4_25) rfl (l' := #[.val (.ref a), .val (.long q9), .second, .val (.int (-1 : Int32)), .val (.int (0 : Int32))]) rfl kK) ?_
  show OGo p e below _ (T1.setTop (mkF m 27 #[.val (.ref a), .val (.long q9), .second, .val (.int (-1 : Int32)), .val (.int (0 : Int32))] []))
  refine OGo.step (fun uK kK => XS.aloadN X1.here hx rfl (hb hby d4_27) rfl rfl kK) ?_
  show OGo p e below _ (T1.setTop (mkF m 28 #[.val (.ref a), .val (.long q9), .second, .val (.int (-1 : Int32)), .val (.int (0 : Int32))] [(.ref a)]))
  obtain ⟨T4, X4, e4, st4⟩ := getF X1 hx hZ hown (host := "") (Or.inl (hw _ (List.mem_of_getElem? (i := 29) rfl))) Via.refl e1 Fn (g := (mkF m 28 #[.val (.ref a), .val (.long q9), .second, .val (.int (-1 : Int32)), .val (.int (0 : Int32))] [(.ref a)])) rfl rfl (hb hby d4_28)
  refine OGo.step (fun uK kK => st4 uK kK) ?_
  show OGo p e below _ (T4.setTop (mkF m 31 #[.val (.ref a), .val (.long q9), .second, .val (.int (-1 : Int32)), .val (.int (0 : Int32))] [(.int (0 : Int32))]))
  refine OGo.step (fun uK kK => XS.aloadN X4.here hx rfl (hb hby d4_31) rfl rfl kK) ?_
  show OGo p e below _ (T4.setTop (mkF m 32 #[.val (.ref a), .val (.long q9), .second, .val (.int (-1 : Int32)), .val (.int (0 : Int32))] [(.ref a), (.int (0 : Int32))]))
  obtain ⟨T5, X5, e5, st5⟩ := getF X4 hx hZ hown (host := "") (Or.inl (hw _ (List.mem_of_getElem? (i := 15) rfl))) Via.refl e4 Fs (g := (mkF m 32 #[.val (.ref a), .val (.long q9), .second, .val (.int (-1 : Int32)), .val (.int (0 : Int32))] [(.ref a), (.int (0 : Int32))])) rfl rfl (hb hby d4_32)
  refine OGo.step (fun uK kK => st5 uK kK) ?_
  show OGo p e below _ (T5.setTop (mkF m 35 #[.val (.ref a), .val (.long q9), .second, .val (.int (-1 : Int32)), .val (.int (0 : Int32))] [(.ref aS), (.int (0 : Int32))]))
  obtain ⟨cl6, Ar6, -, S6, M6, -, -⟩ := id Vs
  refine OGo.step (fun uK kK => X5.arraylength hx (by rw [e5]; exact Ar6.1) (State.isArrayOf_alike hZ.alike Ar6.2.1) (g := (mkF m 35 #[.val (.ref a), .val (.long q9), .second, .val (.int (-1 : Int32)), .val (.int (0 : Int32))] [(.ref aS), (.int (0 : Int32))])) rfl rfl (hb hby d4_35) uK kK) ?_
  rw [len_of S6 M6]
  show OGo p e below _ (T5.setTop (mkF m 36 #[.val (.ref a), .val (.long q9), .second, .val (.int (-1 : Int32)), .val (.int (0 : Int32))] [(.int (8 : Int32)), (.int (0 : Int32))]))
  have hc36 : ¬ ((0 : Int32) = (8 : Int32)) := by decide
  refine OGo.step (fun uK kK => XS.icmpYes X5.here hx rfl (pc0 := 36) (pc' := 73) rfl (hb hby d4_36) rfl (feq hc36).2 (by decide) (by decide) kK) ?_
  show OGo p e below _ (T5.setTop (mkF m 73 #[.val (.ref a), .val (.long q9), .second, .val (.int (-1 : Int32)), .val (.int (0 : Int32))] []))
  refine OGo.step (fun uK kK => XS.aloadN X5.here hx rfl (hb hby d4_73) rfl rfl kK) ?_
  show OGo p e below _ (T5.setTop (mkF m 74 #[.val (.ref a), .val (.long q9), .second, .val (.int (-1 : Int32)), .val (.int (0 : Int32))] [(.ref a)]))
  obtain ⟨T7, X7, e7, st7⟩ := getF X5 hx hZ hown (host := "") (Or.inl (hw _ (List.mem_of_getElem? (i := 15) rfl))) Via.refl e5 Fs (g := (mkF m 74 #[.val (.ref a), .val (.long q9), .second, .val (.int (-1 : Int32)), .val (.int (0 : Int32))] [(.ref a)])) rfl rfl (hb hby d4_74)
  refine OGo.step (fun uK kK => st7 uK kK) ?_
  show OGo p e below _ (T7.setTop (mkF m 77 #[.val (.ref a), .val (.long q9), .second, .val (.int (-1 : Int32)), .val (.int (0 : Int32))] [(.ref aS)]))
  refine OGo.step (fun uK kK => XS.iload X7.here hx rfl (hb hby d4_77) rfl kK) ?_
  show OGo p e below _ (T7.setTop (mkF m 79 #[.val (.ref a), .val (.long q9), .second, .val (.int (-1 : Int32)), .val (.int (0 : Int32))] [(.int (0 : Int32)), (.ref aS)]))
  refine OGo.step (fun uK kK => XS.aloadN X7.here hx rfl (hb hby d4_79) rfl rfl kK) ?_
  show OGo p e below _ (T7.setTop (mkF m 80 #[.val (.ref a), .val (.long q9), .second, .val (.int (-1 : Int32)), .val (.int (0 : Int32))] [(.ref a), (.int (0 : Int32)), (.ref aS)]))
  obtain ⟨T8, X8, e8, st8⟩ := getF X7 hx hZ hown (host := "") (Or.inl (hw _ (List.mem_of_getElem? (i := 15) rfl))) Via.refl e7 Fs (g := (mkF m 80 #[.val (.ref a), .val (.long q9), .second, .val (.int (-1 : Int32)), .val (.int (0 : Int32))] [(.ref a), (.int (0 : Int32)), (.ref aS)])) rfl rfl (hb hby d4_80)
  refine OGo.step (fun uK kK => st8 uK kK) ?_
  show OGo p e below _ (T8.setTop (mkF m 83 #[.val (.ref a), .val (.long q9), .second, .val (.int (-1 : Int32)), .val (.int (0 : Int32))] [(.ref aS), (.int (0 : Int32)), (.ref aS)]))
  refine OGo.step (fun uK kK => XS.iload X8.here hx rfl (hb hby d4_83) rfl kK) ?_
  show OGo p e below _ (T8.setTop (mkF m 85 #[.val (.ref a), .val (.long q9), .second, .val (.int (-1 : Int32)), .val (.int (0 : Int32))] [(.int (0 : Int32)), (.ref aS), (.int (0 : Int32)), (.ref aS)]))
  refine OGo.step (fun uK kK => XS.iconst X8.here hx rfl (hb hby d4_85) kK) ?_
  show OGo p e below _ (T8.setTop (mkF m 86 #[.val (.ref a), .val (.long q9), .second, .val (.int (-1 : Int32)), .val (.int (0 : Int32))] [(.int (1 : Int32)), (.int (0 : Int32)), (.ref aS), (.int (0 : Int32)), (.ref aS)]))
  refine OGo.step (fun uK kK => XS.iadd X8.here hx rfl (hb hby d4_86) rfl kK) ?_
  show OGo p e below _ (T8.setTop (mkF m 87 #[.val (.ref a), .val (.long q9), .second, .val (.int (-1 : Int32)), .val (.int (0 : Int32))] [(.int ((0 : Int32) + (1 : Int32))), (.ref aS), (.int (0 : Int32)), (.ref aS)]))
  have ez9 : ((0 : Int32) + (1 : Int32)) = (1 : Int32) := by decide
  rw [ez9]
  show OGo p e below _ (T8.setTop (mkF m 87 #[.val (.ref a), .val (.long q9), .second, .val (.int (-1 : Int32)), .val (.int (0 : Int32))] [(.int (1 : Int32)), (.ref aS), (.int (0 : Int32)), (.ref aS)]))
  refine OGo.step (fun uK kK => XS.aloadN X8.here hx rfl (hb hby d4_87) rfl rfl kK) ?_
  show OGo p e below _ (T8.setTop (mkF m 88 #[.val (.ref a), .val (.long q9), .second, .val (.int (-1 : Int32)), .val (.int (0 : Int32))] [(.ref a), (.int (1 : Int32)), (.ref aS), (.int (0 : Int32)), (.ref aS)]))
  obtain ⟨T10, X10, e10, st10⟩ := getF X8 hx hZ hown (host := "") (Or.inl (hw _ (List.mem_of_getElem? (i := 29) rfl))) Via.refl e8 Fn (g := (mkF m 88 #[.val (.ref a), .val (.long q9), .second, .val (.int (-1 : Int32)), .val (.int (0 : Int32))] [(.ref a), (.int (1 : Int32)), (.ref aS), (.int (0 : Int32)), (.ref aS)])) rfl rfl (hb hby d4_88)
  refine OGo.step (fun uK kK => st10 uK kK) ?_
  show OGo p e below _ (T10.setTop (mkF m 91 #[.val (.ref a), .val (.long q9), .second, .val (.int (-1 : Int32)), .val (.int (0 : Int32))] [(.int (0 : Int32)), (.int (1 : Int32)), (.ref aS), (.int (0 : Int32)), (.ref aS)]))
  refine OGo.step (fun uK kK => XS.iload X10.here hx rfl (hb hby d4_91) rfl kK) ?_
  show OGo p e below _ (T10.setTop (mkF m 93 #[.val (.ref a), .val (.long q9), .second, .val (.int (-1 : Int32)), .val (.int (0 : Int32))] [(.int (0 : Int32)), (.int (0 : Int32)), (.int (1 : Int32)), (.ref aS), (.int (0 : Int32)), (.ref aS)]))
  refine OGo.step (fun uK kK => XS.isub X10.here hx rfl (hb hby d4_93) rfl kK) ?_
  show OGo p e below _ (T10.setTop (mkF m 94 #[.val (.ref a), .val (.long q9), .second, .val (.int (-1 : Int32)), .val (.int (0 : Int32))] [(.int ((0 : Int32) - (0 : Int32))), (.int (1 : Int32)), (.ref aS), (.int (0 : Int32)), (.ref aS)]))
  have ez11 : ((0 : Int32) - (0 : Int32)) = (0 : Int32) := by decide
  rw [ez11]
  show OGo p e below _ (T10.setTop (mkF m 94 #[.val (.ref a), .val (.long q9), .second, .val (.int (-1 : Int32)), .val (.int (0 : Int32))] [(.int (0 : Int32)), (.int (1 : Int32)), (.ref aS), (.int (0 : Int32)), (.ref aS)]))
  obtain ⟨T12, h12, L12, X12, e12, N12, K12, V12, st12⟩ := cpA X10 hx hZ hown (hw _ (List.mem_of_getElem? (i := 41) rfl)) (hw _ (List.mem_of_getElem? (i := 44) rfl)) (hw _ (List.mem_of_getElem? (i := 42) rfl)) (hw _ (List.mem_of_getElem? (i := 43) rfl)) e10 (sp := (0 : Int32)) (dp := (1 : Int32)) (nn := (0 : Int32)) (us := []) Vs Vs (Or.inl ⟨rfl, rfl⟩) (by decide) (by decide) (by decide) (by decide) (by decide) rfl (Nat.le_of_ble_eq_true rfl) N1 gS (g := (mkF m 94 #[.val (.ref a), .val (.long q9), .second, .val (.int (-1 : Int32)), .val (.int (0 : Int32))] [(.int (0 : Int32)), (.int (1 : Int32)), (.ref aS), (.int (0 : Int32)), (.ref aS)])) rfl (by rw [hml]; rfl) rfl (hb hby d4_94) (by decide) (W := 0) (by show 2 * 0 + _ ≤ _; exact Nat.le_of_eq rfl) (by decide)
  have V_aS_12 : Arv Z h12 aS kS .long (8 : Int32) [(.long s0_), (.long s1_), (.long s2_), (.long s3_), (.long s4_), (.long s5_), (.long s6_), (.long s7_)] (.long (0 : Int64)) := V12
  have Fs_13 := (Fs.keep K12 (ninS neS nin0))
  have Fh_14 := (Fh.keep K12 (ninS neS nin0))
  have Fn_15 := (Fn.keep K12 (ninS neS nin0))
  have Vh_17 := (Vh.keep K12 (ninS (Ne.symm neSH) nin0))
  have Ex_18 := (Ex.keep K12)
  have ZS12 : n0 ≤ h12.size := Nat.le_trans Z0 K12.1
  have KC12 : Keep h0 h12 [a, aS, aH] := (Keep.refl h0 [a, aS, aH]).trans K12 (allS (Or.inl (List.mem_of_getElem? (i := 1) rfl)) all0)
  refine OGo.step (fun uK kK => st12 uK kK) ?_
  show OGo p e below _ (T12.setTop (mkF m 97 #[.val (.ref a), .val (.long q9), .second, .val (.int (-1 : Int32)), .val (.int (0 : Int32))] []))
  refine OGo.step (fun uK kK => XS.aloadN X12.here hx rfl (hb hby d4_97) rfl rfl kK) ?_
  show OGo p e below _ (T12.setTop (mkF m 98 #[.val (.ref a), .val (.long q9), .second, .val (.int (-1 : Int32)), .val (.int (0 : Int32))] [(.ref a)]))
  obtain ⟨T19, X19, e19, st19⟩ := getF X12 hx hZ hown (host := "") (Or.inl (hw _ (List.mem_of_getElem? (i := 18) rfl))) Via.refl e12 Fh_14 (g := (mkF m 98 #[.val (.ref a), .val (.long q9), .second, .val (.int (-1 : Int32)), .val (.int (0 : Int32))] [(.ref a)])) rfl rfl (hb hby d4_98)
  refine OGo.step (fun uK kK => st19 uK kK) ?_
  show OGo p e below _ (T19.setTop (mkF m 101 #[.val (.ref a), .val (.long q9), .second, .val (.int (-1 : Int32)), .val (.int (0 : Int32))] [(.ref aH)]))
  refine OGo.step (fun uK kK => XS.iload X19.here hx rfl (hb hby d4_101) rfl kK) ?_
  show OGo p e below _ (T19.setTop (mkF m 103 #[.val (.ref a), .val (.long q9), .second, .val (.int (-1 : Int32)), .val (.int (0 : Int32))] [(.int (0 : Int32)), (.ref aH)]))
  refine OGo.step (fun uK kK => XS.aloadN X19.here hx rfl (hb hby d4_103) rfl rfl kK) ?_
  show OGo p e below _ (T19.setTop (mkF m 104 #[.val (.ref a), .val (.long q9), .second, .val (.int (-1 : Int32)), .val (.int (0 : Int32))] [(.ref a), (.int (0 : Int32)), (.ref aH)]))
  obtain ⟨T20, X20, e20, st20⟩ := getF X19 hx hZ hown (host := "") (Or.inl (hw _ (List.mem_of_getElem? (i := 18) rfl))) Via.refl e19 Fh_14 (g := (mkF m 104 #[.val (.ref a), .val (.long q9), .second, .val (.int (-1 : Int32)), .val (.int (0 : Int32))] [(.ref a), (.int (0 : Int32)), (.ref aH)])) rfl rfl (hb hby d4_104)
  refine OGo.step (fun uK kK => st20 uK kK) ?_
  show OGo p e below _ (T20.setTop (mkF m 107 #[.val (.ref a), .val (.long q9), .second, .val (.int (-1 : Int32)), .val (.int (0 : Int32))] [(.ref aH), (.int (0 : Int32)), (.ref aH)]))
  refine OGo.step (fun uK kK => XS.iload X20.here hx rfl (hb hby d4_107) rfl kK) ?_
  show OGo p e below _ (T20.setTop (mkF m 109 #[.val (.ref a), .val (.long q9), .second, .val (.int (-1 : Int32)), .val (.int (0 : Int32))] [(.int (0 : Int32)), (.ref aH), (.int (0 : Int32)), (.ref aH)]))
  refine OGo.step (fun uK kK => XS.iconst X20.here hx rfl (hb hby d4_109) kK) ?_
  show OGo p e below _ (T20.setTop (mkF m 110 #[.val (.ref a), .val (.long q9), .second, .val (.int (-1 : Int32)), .val (.int (0 : Int32))] [(.int (1 : Int32)), (.int (0 : Int32)), (.ref aH), (.int (0 : Int32)), (.ref aH)]))
  refine OGo.step (fun uK kK => XS.iadd X20.here hx rfl (hb hby d4_110) rfl kK) ?_
  show OGo p e below _ (T20.setTop (mkF m 111 #[.val (.ref a), .val (.long q9), .second, .val (.int (-1 : Int32)), .val (.int (0 : Int32))] [(.int ((0 : Int32) + (1 : Int32))), (.ref aH), (.int (0 : Int32)), (.ref aH)]))
  have ez21 : ((0 : Int32) + (1 : Int32)) = (1 : Int32) := by decide
  rw [ez21]
  show OGo p e below _ (T20.setTop (mkF m 111 #[.val (.ref a), .val (.long q9), .second, .val (.int (-1 : Int32)), .val (.int (0 : Int32))] [(.int (1 : Int32)), (.ref aH), (.int (0 : Int32)), (.ref aH)]))
  refine OGo.step (fun uK kK => XS.aloadN X20.here hx rfl (hb hby d4_111) rfl rfl kK) ?_
  show OGo p e below _ (T20.setTop (mkF m 112 #[.val (.ref a), .val (.long q9), .second, .val (.int (-1 : Int32)), .val (.int (0 : Int32))] [(.ref a), (.int (1 : Int32)), (.ref aH), (.int (0 : Int32)), (.ref aH)]))
  obtain ⟨T22, X22, e22, st22⟩ := getF X20 hx hZ hown (host := "") (Or.inl (hw _ (List.mem_of_getElem? (i := 29) rfl))) Via.refl e20 Fn_15 (g := (mkF m 112 #[.val (.ref a), .val (.long q9), .second, .val (.int (-1 : Int32)), .val (.int (0 : Int32))] [(.ref a), (.int (1 : Int32)), (.ref aH), (.int (0 : Int32)), (.ref aH)])) rfl rfl (hb hby d4_112)
  refine OGo.step (fun uK kK => st22 uK kK) ?_
  show OGo p e below _ (T22.setTop (mkF m 115 #[.val (.ref a), .val (.long q9), .second, .val (.int (-1 : Int32)), .val (.int (0 : Int32))] [(.int (0 : Int32)), (.int (1 : Int32)), (.ref aH), (.int (0 : Int32)), (.ref aH)]))
  refine OGo.step (fun uK kK => XS.iload X22.here hx rfl (hb hby d4_115) rfl kK) ?_
  show OGo p e below _ (T22.setTop (mkF m 117 #[.val (.ref a), .val (.long q9), .second, .val (.int (-1 : Int32)), .val (.int (0 : Int32))] [(.int (0 : Int32)), (.int (0 : Int32)), (.int (1 : Int32)), (.ref aH), (.int (0 : Int32)), (.ref aH)]))
  refine OGo.step (fun uK kK => XS.isub X22.here hx rfl (hb hby d4_117) rfl kK) ?_
  show OGo p e below _ (T22.setTop (mkF m 118 #[.val (.ref a), .val (.long q9), .second, .val (.int (-1 : Int32)), .val (.int (0 : Int32))] [(.int ((0 : Int32) - (0 : Int32))), (.int (1 : Int32)), (.ref aH), (.int (0 : Int32)), (.ref aH)]))
  have ez23 : ((0 : Int32) - (0 : Int32)) = (0 : Int32) := by decide
  rw [ez23]
  show OGo p e below _ (T22.setTop (mkF m 118 #[.val (.ref a), .val (.long q9), .second, .val (.int (-1 : Int32)), .val (.int (0 : Int32))] [(.int (0 : Int32)), (.int (1 : Int32)), (.ref aH), (.int (0 : Int32)), (.ref aH)]))
  obtain ⟨T24, h24, L24, X24, e24, N24, K24, V24, st24⟩ := cpA X22 hx hZ hown (hw _ (List.mem_of_getElem? (i := 41) rfl)) (hw _ (List.mem_of_getElem? (i := 44) rfl)) (hw _ (List.mem_of_getElem? (i := 42) rfl)) (hw _ (List.mem_of_getElem? (i := 43) rfl)) e22 (sp := (0 : Int32)) (dp := (1 : Int32)) (nn := (0 : Int32)) (us := []) Vh_17 Vh_17 (Or.inl ⟨rfl, rfl⟩) (by decide) (by decide) (by decide) (by decide) (by decide) rfl (Nat.le_of_ble_eq_true rfl) N12 gH (g := (mkF m 118 #[.val (.ref a), .val (.long q9), .second, .val (.int (-1 : Int32)), .val (.int (0 : Int32))] [(.int (0 : Int32)), (.int (1 : Int32)), (.ref aH), (.int (0 : Int32)), (.ref aH)])) rfl (by rw [hml]; rfl) rfl (hb hby d4_118) (by decide) (W := 0) (by show 2 * 0 + _ ≤ _; exact Nat.le_of_eq rfl) (by decide)
  have V_aH_24 : Arv Z h24 aH kH .int (8 : Int32) [(.int k0_), (.int k1_), (.int k2_), (.int k3_), (.int k4_), (.int k5_), (.int k6_), (.int k7_)] (.int (0 : Int32)) := V24
  have Fs_25 := (Fs_13.keep K24 (ninS neH nin0))
  have Fh_26 := (Fh_14.keep K24 (ninS neH nin0))
  have Fn_27 := (Fn_15.keep K24 (ninS neH nin0))
  have Ex_29 := (Ex_18.keep K24)
  have V_aS_30 := (V_aS_12.keep K24 (ninS neSH nin0))
  have ZS24 : n0 ≤ h24.size := Nat.le_trans ZS12 K24.1
  have KC24 : Keep h0 h24 [a, aS, aH] := KC12.trans K24 (allS (Or.inl (List.mem_of_getElem? (i := 2) rfl)) all0)
  refine OGo.step (fun uK kK => st24 uK kK) ?_
  show OGo p e below _ (T24.setTop (mkF m 121 #[.val (.ref a), .val (.long q9), .second, .val (.int (-1 : Int32)), .val (.int (0 : Int32))] []))
  refine OGo.step (fun uK kK => XS.aloadN X24.here hx rfl (hb hby d4_121) rfl rfl kK) ?_
  show OGo p e below _ (T24.setTop (mkF m 122 #[.val (.ref a), .val (.long q9), .second, .val (.int (-1 : Int32)), .val (.int (0 : Int32))] [(.ref a)]))
  obtain ⟨T31, X31, e31, st31⟩ := getF X24 hx hZ hown (host := "") (Or.inl (hw _ (List.mem_of_getElem? (i := 15) rfl))) Via.refl e24 Fs_25 (g := (mkF m 122 #[.val (.ref a), .val (.long q9), .second, .val (.int (-1 : Int32)), .val (.int (0 : Int32))] [(.ref a)])) rfl rfl (hb hby d4_122)
  refine OGo.step (fun uK kK => st31 uK kK) ?_
  show OGo p e below _ (T31.setTop (mkF m 125 #[.val (.ref a), .val (.long q9), .second, .val (.int (-1 : Int32)), .val (.int (0 : Int32))] [(.ref aS)]))
  refine OGo.step (fun uK kK => XS.iload X31.here hx rfl (hb hby d4_125) rfl kK) ?_
  show OGo p e below _ (T31.setTop (mkF m 127 #[.val (.ref a), .val (.long q9), .second, .val (.int (-1 : Int32)), .val (.int (0 : Int32))] [(.int (0 : Int32)), (.ref aS)]))
  refine OGo.step (fun uK kK => XS.lloadN X31.here hx rfl (hb hby d4_127) rfl kK) ?_
  show OGo p e below _ (T31.setTop (mkF m 128 #[.val (.ref a), .val (.long q9), .second, .val (.int (-1 : Int32)), .val (.int (0 : Int32))] [(.long q9), (.int (0 : Int32)), (.ref aS)]))
  obtain ⟨cl32, Ar32, q32, S32, M32, H32, G32⟩ := id V_aS_30
  have hin32 : ¬ ((0 : Int32) < 0 ∨ cl32.slots.size ≤ ((0 : Int32)).toNatClampNeg) := inb_of S32 ⟨by decide, by decide⟩
  obtain ⟨T32, h32, X32, e32, W32, st32⟩ := stJ X31 hx hZ e31 Ar32 (j := (0 : Int32)) hin32 (g := (mkF m 128 #[.val (.ref a), .val (.long q9), .second, .val (.int (-1 : Int32)), .val (.int (0 : Int32))] [(.long q9), (.int (0 : Int32)), (.ref aS)])) rfl rfl (hb hby d4_128)
  have V_aS_32 : Arv Z h32 aS kS .long (8 : Int32) [(.long q9), (.long s1_), (.long s2_), (.long s3_), (.long s4_), (.long s5_), (.long s6_), (.long s7_)] (.long (0 : Int64)) := Arv.set Ar32 q32 S32 M32 H32 G32 rfl W32 0 rfl (Nat.le_of_ble_eq_true rfl)
  have Fs_33 := (Fs_25.other W32 (Or.inl neS))
  have Fh_34 := (Fh_26.other W32 (Or.inl neS))
  have Fn_35 := (Fn_27.other W32 (Or.inl neS))
  have Ex_36 := (Ex_29.wr W32)
  have V_aH_38 := (V_aH_24.other W32 (Ne.symm neSH))
  have ZS32 : n0 ≤ h32.size := Nat.le_trans ZS24 (Keep.of_wr W32).1
  have KC32 : Keep h0 h32 [a, aS, aH] := KC24.wr W32 (Or.inl (List.mem_of_getElem? (i := 1) rfl))
  have N32 := Fr.snoc X32 N24 gS
  refine OGo.step (fun uK kK => st32 uK kK) ?_
  show OGo p e below _ (T32.setTop (mkF m 129 #[.val (.ref a), .val (.long q9), .second, .val (.int (-1 : Int32)), .val (.int (0 : Int32))] []))
  refine OGo.step (fun uK kK => XS.aloadN X32.here hx rfl (hb hby d4_129) rfl rfl kK) ?_
  show OGo p e below _ (T32.setTop (mkF m 130 #[.val (.ref a), .val (.long q9), .second, .val (.int (-1 : Int32)), .val (.int (0 : Int32))] [(.ref a)]))
  obtain ⟨T39, X39, e39, st39⟩ := getF X32 hx hZ hown (host := "") (Or.inl (hw _ (List.mem_of_getElem? (i := 18) rfl))) Via.refl e32 Fh_34 (g := (mkF m 130 #[.val (.ref a), .val (.long q9), .second, .val (.int (-1 : Int32)), .val (.int (0 : Int32))] [(.ref a)])) rfl rfl (hb hby d4_130)
  refine OGo.step (fun uK kK => st39 uK kK) ?_
  show OGo p e below _ (T39.setTop (mkF m 133 #[.val (.ref a), .val (.long q9), .second, .val (.int (-1 : Int32)), .val (.int (0 : Int32))] [(.ref aH)]))
  refine OGo.step (fun uK kK => XS.iload X39.here hx rfl (hb hby d4_133) rfl kK) ?_
  show OGo p e below _ (T39.setTop (mkF m 135 #[.val (.ref a), .val (.long q9), .second, .val (.int (-1 : Int32)), .val (.int (0 : Int32))] [(.int (0 : Int32)), (.ref aH)]))
  refine OGo.step (fun uK kK => XS.iconst X39.here hx rfl (hb hby d4_135) kK) ?_
  show OGo p e below _ (T39.setTop (mkF m 136 #[.val (.ref a), .val (.long q9), .second, .val (.int (-1 : Int32)), .val (.int (0 : Int32))] [(.int (1 : Int32)), (.int (0 : Int32)), (.ref aH)]))
  obtain ⟨cl40, Ar40, q40, S40, M40, H40, G40⟩ := id V_aH_38
  have hin40 : ¬ ((0 : Int32) < 0 ∨ cl40.slots.size ≤ ((0 : Int32)).toNatClampNeg) := inb_of S40 ⟨by decide, by decide⟩
  obtain ⟨T40, h40, X40, e40, W40, st40⟩ := stI X39 hx hZ e39 Ar40 (j := (0 : Int32)) hin40 (g := (mkF m 136 #[.val (.ref a), .val (.long q9), .second, .val (.int (-1 : Int32)), .val (.int (0 : Int32))] [(.int (1 : Int32)), (.int (0 : Int32)), (.ref aH)])) rfl rfl (hb hby d4_136)
  have V_aH_40 : Arv Z h40 aH kH .int (8 : Int32) [(.int (1 : Int32)), (.int k1_), (.int k2_), (.int k3_), (.int k4_), (.int k5_), (.int k6_), (.int k7_)] (.int (0 : Int32)) := Arv.set Ar40 q40 S40 M40 H40 G40 rfl W40 0 rfl (Nat.le_of_ble_eq_true rfl)
  have Fs_41 := (Fs_33.other W40 (Or.inl neH))
  have Fh_42 := (Fh_34.other W40 (Or.inl neH))
  have Fn_43 := (Fn_35.other W40 (Or.inl neH))
  have Ex_44 := (Ex_36.wr W40)
  have V_aS_46 := (V_aS_32.other W40 neSH)
  have ZS40 : n0 ≤ h40.size := Nat.le_trans ZS32 (Keep.of_wr W40).1
  have KC40 : Keep h0 h40 [a, aS, aH] := KC32.wr W40 (Or.inl (List.mem_of_getElem? (i := 2) rfl))
  have N40 := Fr.snoc X40 N32 gH
  refine OGo.step (fun uK kK => st40 uK kK) ?_
  show OGo p e below _ (T40.setTop (mkF m 137 #[.val (.ref a), .val (.long q9), .second, .val (.int (-1 : Int32)), .val (.int (0 : Int32))] []))
  refine OGo.step (fun uK kK => XS.aloadN X40.here hx rfl (hb hby d4_137) rfl rfl kK) ?_
  show OGo p e below _ (T40.setTop (mkF m 138 #[.val (.ref a), .val (.long q9), .second, .val (.int (-1 : Int32)), .val (.int (0 : Int32))] [(.ref a)]))
  refine OGo.step (fun uK kK => XS.dup X40.here hx rfl (hb hby d4_138) rfl rfl kK) ?_
  show OGo p e below _ (T40.setTop (mkF m 139 #[.val (.ref a), .val (.long q9), .second, .val (.int (-1 : Int32)), .val (.int (0 : Int32))] [(.ref a), (.ref a)]))
  obtain ⟨T47, X47, e47, st47⟩ := getF X40 hx hZ hown (host := "") (Or.inl (hw _ (List.mem_of_getElem? (i := 29) rfl))) Via.refl e40 Fn_43 (g := (mkF m 139 #[.val (.ref a), .val (.long q9), .second, .val (.int (-1 : Int32)), .val (.int (0 : Int32))] [(.ref a), (.ref a)])) rfl rfl (hb hby d4_139)
  refine OGo.step (fun uK kK => st47 uK kK) ?_
  show OGo p e below _ (T47.setTop (mkF m 142 #[.val (.ref a), .val (.long q9), .second, .val (.int (-1 : Int32)), .val (.int (0 : Int32))] [(.int (0 : Int32)), (.ref a)]))
  refine OGo.step (fun uK kK => XS.iconst X47.here hx rfl (hb hby d4_142) kK) ?_
  show OGo p e below _ (T47.setTop (mkF m 143 #[.val (.ref a), .val (.long q9), .second, .val (.int (-1 : Int32)), .val (.int (0 : Int32))] [(.int (1 : Int32)), (.int (0 : Int32)), (.ref a)]))
  refine OGo.step (fun uK kK => XS.iadd X47.here hx rfl (hb hby d4_143) rfl kK) ?_
  show OGo p e below _ (T47.setTop (mkF m 144 #[.val (.ref a), .val (.long q9), .second, .val (.int (-1 : Int32)), .val (.int (0 : Int32))] [(.int ((0 : Int32) + (1 : Int32))), (.ref a)]))
  have ez48 : ((0 : Int32) + (1 : Int32)) = (1 : Int32) := by decide
  rw [ez48]
  show OGo p e below _ (T47.setTop (mkF m 144 #[.val (.ref a), .val (.long q9), .second, .val (.int (-1 : Int32)), .val (.int (0 : Int32))] [(.int (1 : Int32)), (.ref a)]))
  obtain ⟨T49, h49, X49, e49, W49, st49⟩ := putF X47 hx hZ hown (host := "") (Or.inl (hw _ (List.mem_of_getElem? (i := 29) rfl))) Via.refl e47 Fn_43 Ex_44 (Or.inl (hw _ (List.mem_of_getElem? (i := 30) rfl))) (hw _ (List.mem_of_getElem? (i := 6) rfl)) (ty := .int) (by decide) rfl rfl (g := (mkF m 144 #[.val (.ref a), .val (.long q9), .second, .val (.int (-1 : Int32)), .val (.int (0 : Int32))] [(.int (1 : Int32)), (.ref a)])) rfl rfl (hb hby d4_144)
  have Fw49 := Fn_43.same W49
  have Fs_50 := (Fs_41.other W49 (Or.inr (slot_ne (Or.inl (hw _ (List.mem_of_getElem? (i := 16) rfl))) (Or.inl (hw _ (List.mem_of_getElem? (i := 30) rfl))) (by decide) (t := (.array .long)) (t' := .int) (by decide) (by decide))))
  have Fh_51 := (Fh_42.other W49 (Or.inr (slot_ne (Or.inl (hw _ (List.mem_of_getElem? (i := 19) rfl))) (Or.inl (hw _ (List.mem_of_getElem? (i := 30) rfl))) (by decide) (t := (.array .int)) (t' := .int) (by decide) (by decide))))
  have Ex_53 := (Ex_44.wr W49)
  have V_aS_54 := (V_aS_46.other W49 (Ne.symm neS))
  have V_aH_55 := (V_aH_40.other W49 (Ne.symm neH))
  have ZS49 : n0 ≤ h49.size := Nat.le_trans ZS40 (Keep.of_wr W49).1
  have KC49 : Keep h0 h49 [a, aS, aH] := KC40.wr W49 (Or.inl (List.mem_of_getElem? (i := 0) rfl))
  have N49 := Fr.snoc X49 N40 ga
  refine OGo.step (fun uK kK => st49 uK kK) ?_
  show OGo p e below _ (T49.setTop (mkF m 147 #[.val (.ref a), .val (.long q9), .second, .val (.int (-1 : Int32)), .val (.int (0 : Int32))] []))
  exact OGo.retV X49 hx Bd.notSynchronized Bd.returns (hb hby d4_147) (by decide) (by decide) (by show Qa0 Z a aS kS s0_ s1_ s2_ s3_ s4_ s5_ s6_ s7_ aH kH k0_ k1_ k2_ k3_ k4_ k5_ k6_ k7_ q9 h0 n0 _ T49.heap _; rw [e49]; exact ⟨rfl, N49, KC49, Fs_50, Fh_51, Fw49, V_aS_54, V_aH_55⟩)
theorem pna1 : plainName "com/example/graph_of_conflicts/graphofconflicts/engine/OpenSnapshots" = true := by first | (simp [plainName, overriddenIn]; done) | decide +kernel
theorem pda1_0 : parseMethodDescriptor "(J)I" = some ⟨[.long], some .int⟩ := by decide +kernel
theorem efa1 (m : MethodId) (x0 : Addr) (x1 : Int64) : entryFrame m #[(.ref x0), (.long x1)] 5 = mkF m 0 #[.val (.ref x0), .val (.long x1), .second, .unset, .unset] [] := by first | (simp [entryFrame, mkF, argsToLocals, Value.category]; done) | rfl
def Qa1 (Z : State) (a : Addr) (aS : Addr) (kS : ClassId) (s0_ : Int64) (s1_ : Int64) (s2_ : Int64) (s3_ : Int64) (s4_ : Int64) (s5_ : Int64) (s6_ : Int64) (s7_ : Int64) (aH : Addr) (kH : ClassId) (k0_ : Int32) (k1_ : Int32) (k2_ : Int32) (k3_ : Int32) (k4_ : Int32) (k5_ : Int32) (k6_ : Int32) (k7_ : Int32) (q9 : Int64) (h0 : Heap) (n0 : Nat) (v : Option Value) (h : Heap) (L : List Loc) : Prop := v = none ∧ Fr n0 L ∧ Keep h0 h [a, aS, aH] ∧ Fld Z h a "com/example/graph_of_conflicts/graphofconflicts/engine/OpenSnapshots" "snapshots" "[J" (.ref aS) ∧ Fld Z h a "com/example/graph_of_conflicts/graphofconflicts/engine/OpenSnapshots" "holders" "[I" (.ref aH) ∧ Fld Z h a "com/example/graph_of_conflicts/graphofconflicts/engine/OpenSnapshots" "size" "I" (.int (2 : Int32)) ∧ Arv Z h aS kS .long (8 : Int32) [(.long s0_), (.long q9), (.long s2_), (.long s3_), (.long s4_), (.long s5_), (.long s6_), (.long s7_)] (.long (0 : Int64)) ∧ Arv Z h aH kH .int (8 : Int32) [(.int k0_), (.int (1 : Int32)), (.int k2_), (.int k3_), (.int k4_), (.int k5_), (.int k6_), (.int k7_)] (.int (0 : Int32))
set_option maxRecDepth 65536 in
set_option maxHeartbeats 40000000 in
theorem rma1 (l : Launch) (Z : State) (a0 : Array Value) (hw : ∀ d ∈ tables_1, d.before a0 Z = true) (ws : List Jvm.Cond) (a : Addr) (aS : Addr) (kS : ClassId) (s0_ : Int64) (s1_ : Int64) (s2_ : Int64) (s3_ : Int64) (s4_ : Int64) (s5_ : Int64) (s6_ : Int64) (s7_ : Int64) (aH : Addr) (kH : ClassId) (k0_ : Int32) (k1_ : Int32) (k2_ : Int32) (k3_ : Int32) (k4_ : Int32) (k5_ : Int32) (k6_ : Int32) (k7_ : Int32) (q9 : Int64) (h0 : Heap) (n0 : Nat) (Z0 : n0 ≤ h0.size) (Fs : Fld Z h0 a "com/example/graph_of_conflicts/graphofconflicts/engine/OpenSnapshots" "snapshots" "[J" (.ref aS)) (Fh : Fld Z h0 a "com/example/graph_of_conflicts/graphofconflicts/engine/OpenSnapshots" "holders" "[I" (.ref aH)) (Fn : Fld Z h0 a "com/example/graph_of_conflicts/graphofconflicts/engine/OpenSnapshots" "size" "I" (.int (1 : Int32))) (Vs : Arv Z h0 aS kS .long (8 : Int32) [(.long s0_), (.long s1_), (.long s2_), (.long s3_), (.long s4_), (.long s5_), (.long s6_), (.long s7_)] (.long (0 : Int64))) (Vh : Arv Z h0 aH kH .int (8 : Int32) [(.int k0_), (.int k1_), (.int k2_), (.int k3_), (.int k4_), (.int k5_), (.int k6_), (.int k7_)] (.int (0 : Int32))) (Ex : Exa Z h0 a "com/example/graph_of_conflicts/graphofconflicts/engine/OpenSnapshots") (ga : n0 ≤ a) (gS : n0 ≤ aS) (gH : n0 ≤ aH) (neS : a ≠ aS) (neH : a ≠ aH) (neSH : aS ≠ aH) (hlt : s0_ < q9) :
    MetFree l (⟨"com/example/graph_of_conflicts/graphofconflicts/engine/OpenSnapshots", "add", "(J)V"⟩ : MethodName) (head1 (Jvm.Cond.code (⟨"com/example/graph_of_conflicts/graphofconflicts/engine/OpenSnapshots", "add", "(J)V"⟩ : MethodName) prog_55_method_2_code 5 none :: ws) ({ frames := 3, cells := 0, slots := 0, locals := 63 } : Room)) (fun aQ UQ => aQ = #[(.ref a), (.long q9)] ∧ Z.Warmed39 UQ.vm ∧ UQ.heap = h0) (fun _ _ _ _ _ => True) (fun _ U o U' => ∃ v L, o = .returned v ∧ Qa1 Z a aS kS s0_ s1_ s2_ s3_ s4_ s5_ s6_ s7_ aH kH k0_ k1_ k2_ k3_ k4_ k5_ k6_ k7_ q9 h0 n0 v U'.heap L ∧ FrameEnd U o U' L ({ frames := 3, cells := 0, slots := 0, locals := 63 } : Room).cells ({ frames := 3, cells := 0, slots := 0, locals := 63 } : Room).slots) := by
  refine MetFree.of_bodySF (plainFor_of_name pna1) hisR ?_
  intro p e s m args below meth c s₁ Bd hml0 hP hK
  obtain ⟨rfl, hZ, hh⟩ := hP
  have hx := Bd.exec
  have hby := Bd.bytes
  have hml : c.maxLocals = 5 := hml0
  have hown : s.vm.findClass "com/example/graph_of_conflicts/graphofconflicts/engine/OpenSnapshots" = some m.cls := findClass_of_methodNamed Bd.named
  have hnm := (name_of_methodNamed Bd.named Bd.method).1
  have X0 : Stand p l e ({ frames := 3, cells := 0, slots := 0, locals := 63 } : Room) s m #[(.ref a), (.long q9)] below meth c s₁ [] 0 0 := Stand.of_body Bd
  have e0 : s₁.heap = h0 := by rw [← hh, Bd.state]; rfl
  have N0 := Fr.nil n0
  show OGo p e below (OPost s (Qa1 Z a aS kS s0_ s1_ s2_ s3_ s4_ s5_ s6_ s7_ aH kH k0_ k1_ k2_ k3_ k4_ k5_ k6_ k7_ q9 h0 n0) ({ frames := 3, cells := 0, slots := 0, locals := 63 } : Room).cells ({ frames := 3, cells := 0, slots := 0, locals := 63 } : Room).slots) (s₁.setTop (entryFrame m #[(.ref a), (.long q9)] 5))
  refine OGo.step (fun uK kK => castTop (efa1 m a q9) kK) ?_
  show OGo p e below _ (s₁.setTop (mkF m 0 #[.val (.ref a), .val (.long q9), .second, .unset, .unset] []))
  refine OGo.step (fun uK kK => XS.aloadN X0.here hx rfl (hb hby d4_0) rfl rfl kK) ?_
  show OGo p e below _ (s₁.setTop (mkF m 1 #[.val (.ref a), .val (.long q9), .second, .unset, .unset] [(.ref a)]))
  refine OGo.step (fun uK kK => XS.lloadN X0.here hx rfl (hb hby d4_1) rfl kK) ?_
  show OGo p e below _ (s₁.setTop (mkF m 2 #[.val (.ref a), .val (.long q9), .second, .unset, .unset] [(.long q9), (.ref a)]))
  obtain ⟨cq1, qc1, qd1⟩ := Ex.cell
  obtain ⟨_, _, ⟨T1, Lq1, kq_1, nq_1⟩, -, X1, ⟨Lc1, hQ1, lq1, yq1, zq1⟩, st1⟩ := X0.privateBack hx (y := (⟨"com/example/graph_of_conflicts/graphofconflicts/engine/OpenSnapshots", "indexOf", "(J)I"⟩ : MethodName)) hown (mvT hZ (hw _ (List.mem_of_getElem? (i := 25) rfl))) (mvT hZ (hw _ (List.mem_of_getElem? (i := 26) rfl))) (own_selP (mvT hZ (hw _ (List.mem_of_getElem? (i := 6) rfl))) (mvP hZ (hw _ (List.mem_of_getElem? (i := 27) rfl))) (mvT hZ (hw _ (List.mem_of_getElem? (i := 26) rfl))) (by decide)) (Cond.privateMethod_at (mvP hZ (hw _ (List.mem_of_getElem? (i := 27) rfl)) (args := #[]))) (mvT hZ (hw _ (List.mem_of_getElem? (i := 28) rfl))) (by decide) (backOf (W := 0) (rmx_g0 l Z a0 hw [] a aS kS s0_ s1_ s2_ s3_ s4_ s5_ s6_ s7_ q9 h0 n0 Z0 Fs Fn Vs hlt) hZ (hw _ (List.mem_of_getElem? (i := 28) rfl)) (hw _ (List.mem_of_getElem? (i := 7) rfl)) (by decide) (by decide)) (g := (mkF m 2 #[.val (.ref a), .val (.long q9), .second, .unset, .unset] [(.long q9), (.ref a)])) rfl (by rw [hml]; rfl) (Steps.refl _) (a := a) (by rw [e0]; exact qc1) qd1 (argsL := [(.long q9)]) (rest := []) (lenOf pda1_0 rfl) rfl (by show 2 * 0 + _ ≤ _; exact Nat.le_of_eq rfl) (hb hby d4_2) (fun _ _ => ⟨rfl, e0, (by decide : 0 + 0 ≤ _), (by decide : 0 + 0 ≤ _)⟩)
  dsimp only [Pt.U, Pt.locs, Pt.cells, Pt.slots] at X1 lq1 yq1 zq1 st1 hQ1
  subst lq1 yq1 zq1
  obtain ⟨rfl, Nq1, e1⟩ := hQ1
  have N1 := Fr.app N0 Nq1
  refine OGo.steps st1 ?_
  show OGo p e below _ (T1.setTop (mkF m 5 #[.val (.ref a), .val (.long q9), .second, .unset, .unset] [(.int (-2 : Int32))]))
  refine OGo.step (fun uK kK => XS.istoreN X1.here hx rfl (hb hby d4_5) rfl (l' := #[.val (.ref a), .val (.long q9), .second, .val (.int (-2 : Int32)), .unset]) rfl kK) ?_
  show OGo p e below _ (T1.setTop (mkF m 6 #[.val (.ref a), .val (.long q9), .second, .val (.int (-2 : Int32)), .unset] []))
  refine OGo.step (fun uK kK => XS.iloadN X1.here hx rfl (hb hby d4_6) rfl kK) ?_
  show OGo p e below _ (T1.setTop (mkF m 7 #[.val (.ref a), .val (.long q9), .second, .val (.int (-2 : Int32)), .unset] [(.int (-2 : Int32))]))
  have hc7 : (-2 : Int32) < (0 : Int32) := by decide
  refine OGo.step (fun uK kK => XS.ifYes X1.here hx rfl (pc0 := 7) (pc' := 21) rfl (hb hby d4_7) rfl ((if0 _ _).trans (tlt hc7).1) (by decide) (by decide) kK) ?_
  show OGo p e below _ (T1.setTop (mkF m 21 #[.val (.ref a), .val (.long q9), .second, .val (.int (-2 : Int32)), .unset] []))
  refine OGo.step (fun uK kK => XS.iloadN X1.here hx rfl (hb hby d4_21) rfl kK) ?_
  show OGo p e below _ (T1.setTop (mkF m 22 #[.val (.ref a), .val (.long q9), .second, .val (.int (-2 : Int32)), .unset] [(.int (-2 : Int32))]))
  refine OGo.step (fun uK kK => XS.ineg X1.here hx rfl (hb hby d4_22) rfl kK) ?_
  show OGo p e below _ (T1.setTop (mkF m 23 #[.val (.ref a), .val (.long q9), .second, .val (.int (-2 : Int32)), .unset] [(.int (-(-2 : Int32)))]))
  have ez2 : (-(-2 : Int32)) = (2 : Int32) := by decide
  rw [ez2]
  show OGo p e below _ (T1.setTop (mkF m 23 #[.val (.ref a), .val (.long q9), .second, .val (.int (-2 : Int32)), .unset] [(.int (2 : Int32))]))
  refine OGo.step (fun uK kK => XS.iconst X1.here hx rfl (hb hby d4_23) kK) ?_
  show OGo p e below _ (T1.setTop (mkF m 24 #[.val (.ref a), .val (.long q9), .second, .val (.int (-2 : Int32)), .unset] [(.int (1 : Int32)), (.int (2 : Int32))]))
  refine OGo.step (fun uK kK => XS.isub X1.here hx rfl (hb hby d4_24) rfl kK) ?_
  show OGo p e below _ (T1.setTop (mkF m 25 #[.val (.ref a), .val (.long q9), .second, .val (.int (-2 : Int32)), .unset] [(.int ((2 : Int32) - (1 : Int32)))]))
  have ez3 : ((2 : Int32) - (1 : Int32)) = (1 : Int32) := by decide
  rw [ez3]
  show OGo p e below _ (T1.setTop (mkF m 25 #[.val (.ref a), .val (.long q9), .second, .val (.int (-2 : Int32)), .unset] [(.int (1 : Int32))]))
  refine OGo.step (fun uK kK => XS.istore X1.here hx rfl (hb hby d4_25) rfl (l' := #[.val (.ref a), .val (.long q9), .second, .val (.int (-2 : Int32)), .val (.int (1 : Int32))]) rfl kK) ?_
  show OGo p e below _ (T1.setTop (mkF m 27 #[.val (.ref a), .val (.long q9), .second, .val (.int (-2 : Int32)), .val (.int (1 : Int32))] []))
  refine OGo.step (fun uK kK => XS.aloadN X1.here hx rfl (hb hby d4_27) rfl rfl kK) ?_
  show OGo p e below _ (T1.setTop (mkF m 28 #[.val (.ref a), .val (.long q9), .second, .val (.int (-2 : Int32)), .val (.int (1 : Int32))] [(.ref a)]))
  obtain ⟨T4, X4, e4, st4⟩ := getF X1 hx hZ hown (host := "") (Or.inl (hw _ (List.mem_of_getElem? (i := 29) rfl))) Via.refl e1 Fn (g := (mkF m 28 #[.val (.ref a), .val (.long q9), .second, .val (.int (-2 : Int32)), .val (.int (1 : Int32))] [(.ref a)])) rfl rfl (hb hby d4_28)
  refine OGo.step (fun uK kK => st4 uK kK) ?_
  show OGo p e below _ (T4.setTop (mkF m 31 #[.val (.ref a), .val (.long q9), .second, .val (.int (-2 : Int32)), .val (.int (1 : Int32))] [(.int (1 : Int32))]))
  refine OGo.step (fun uK kK => XS.aloadN X4.here hx rfl (hb hby d4_31) rfl rfl kK) ?_
  show OGo p e below _ (T4.setTop (mkF m 32 #[.val (.ref a), .val (.long q9), .second, .val (.int (-2 : Int32)), .val (.int (1 : Int32))] [(.ref a), (.int (1 : Int32))]))
  obtain ⟨T5, X5, e5, st5⟩ := getF X4 hx hZ hown (host := "") (Or.inl (hw _ (List.mem_of_getElem? (i := 15) rfl))) Via.refl e4 Fs (g := (mkF m 32 #[.val (.ref a), .val (.long q9), .second, .val (.int (-2 : Int32)), .val (.int (1 : Int32))] [(.ref a), (.int (1 : Int32))])) rfl rfl (hb hby d4_32)
  refine OGo.step (fun uK kK => st5 uK kK) ?_
  show OGo p e below _ (T5.setTop (mkF m 35 #[.val (.ref a), .val (.long q9), .second, .val (.int (-2 : Int32)), .val (.int (1 : Int32))] [(.ref aS), (.int (1 : Int32))]))
  obtain ⟨cl6, Ar6, -, S6, M6, -, -⟩ := id Vs
  refine OGo.step (fun uK kK => X5.arraylength hx (by rw [e5]; exact Ar6.1) (State.isArrayOf_alike hZ.alike Ar6.2.1) (g := (mkF m 35 #[.val (.ref a), .val (.long q9), .second, .val (.int (-2 : Int32)), .val (.int (1 : Int32))] [(.ref aS), (.int (1 : Int32))])) rfl rfl (hb hby d4_35) uK kK) ?_
  rw [len_of S6 M6]
  show OGo p e below _ (T5.setTop (mkF m 36 #[.val (.ref a), .val (.long q9), .second, .val (.int (-2 : Int32)), .val (.int (1 : Int32))] [(.int (8 : Int32)), (.int (1 : Int32))]))
  have hc36 : ¬ ((1 : Int32) = (8 : Int32)) := by decide
  refine OGo.step (fun uK kK => XS.icmpYes X5.here hx rfl (pc0 := 36) (pc' := 73) rfl (hb hby d4_36) rfl (feq hc36).2 (by decide) (by decide) kK) ?_
  show OGo p e below _ (T5.setTop (mkF m 73 #[.val (.ref a), .val (.long q9), .second, .val (.int (-2 : Int32)), .val (.int (1 : Int32))] []))
  refine OGo.step (fun uK kK => XS.aloadN X5.here hx rfl (hb hby d4_73) rfl rfl kK) ?_
  show OGo p e below _ (T5.setTop (mkF m 74 #[.val (.ref a), .val (.long q9), .second, .val (.int (-2 : Int32)), .val (.int (1 : Int32))] [(.ref a)]))
  obtain ⟨T7, X7, e7, st7⟩ := getF X5 hx hZ hown (host := "") (Or.inl (hw _ (List.mem_of_getElem? (i := 15) rfl))) Via.refl e5 Fs (g := (mkF m 74 #[.val (.ref a), .val (.long q9), .second, .val (.int (-2 : Int32)), .val (.int (1 : Int32))] [(.ref a)])) rfl rfl (hb hby d4_74)
  refine OGo.step (fun uK kK => st7 uK kK) ?_
  show OGo p e below _ (T7.setTop (mkF m 77 #[.val (.ref a), .val (.long q9), .second, .val (.int (-2 : Int32)), .val (.int (1 : Int32))] [(.ref aS)]))
  refine OGo.step (fun uK kK => XS.iload X7.here hx rfl (hb hby d4_77) rfl kK) ?_
  show OGo p e below _ (T7.setTop (mkF m 79 #[.val (.ref a), .val (.long q9), .second, .val (.int (-2 : Int32)), .val (.int (1 : Int32))] [(.int (1 : Int32)), (.ref aS)]))
  refine OGo.step (fun uK kK => XS.aloadN X7.here hx rfl (hb hby d4_79) rfl rfl kK) ?_
  show OGo p e below _ (T7.setTop (mkF m 80 #[.val (.ref a), .val (.long q9), .second, .val (.int (-2 : Int32)), .val (.int (1 : Int32))] [(.ref a), (.int (1 : Int32)), (.ref aS)]))
  obtain ⟨T8, X8, e8, st8⟩ := getF X7 hx hZ hown (host := "") (Or.inl (hw _ (List.mem_of_getElem? (i := 15) rfl))) Via.refl e7 Fs (g := (mkF m 80 #[.val (.ref a), .val (.long q9), .second, .val (.int (-2 : Int32)), .val (.int (1 : Int32))] [(.ref a), (.int (1 : Int32)), (.ref aS)])) rfl rfl (hb hby d4_80)
  refine OGo.step (fun uK kK => st8 uK kK) ?_
  show OGo p e below _ (T8.setTop (mkF m 83 #[.val (.ref a), .val (.long q9), .second, .val (.int (-2 : Int32)), .val (.int (1 : Int32))] [(.ref aS), (.int (1 : Int32)), (.ref aS)]))
  refine OGo.step (fun uK kK => XS.iload X8.here hx rfl (hb hby d4_83) rfl kK) ?_
  show OGo p e below _ (T8.setTop (mkF m 85 #[.val (.ref a), .val (.long q9), .second, .val (.int (-2 : Int32)), .val (.int (1 : Int32))] [(.int (1 : Int32)), (.ref aS), (.int (1 : Int32)), (.ref aS)]))
  refine OGo.step (fun uK kK => XS.iconst X8.here hx rfl (hb hby d4_85) kK) ?_
  show OGo p e below _ (T8.setTop (mkF m 86 #[.val (.ref a), .val (.long q9), .second, .val (.int (-2 : Int32)), .val (.int (1 : Int32))] [(.int (1 : Int32)), (.int (1 : Int32)), (.ref aS), (.int (1 : Int32)), (.ref aS)]))
  refine OGo.step (fun uK kK => XS.iadd X8.here hx rfl (hb hby d4_86) rfl kK) ?_
  show OGo p e below _ (T8.setTop (mkF m 87 #[.val (.ref a), .val (.long q9), .second, .val (.int (-2 : Int32)), .val (.int (1 : Int32))] [(.int ((1 : Int32) + (1 : Int32))), (.ref aS), (.int (1 : Int32)), (.ref aS)]))
  have ez9 : ((1 : Int32) + (1 : Int32)) = (2 : Int32) := by decide
  rw [ez9]
  show OGo p e below _ (T8.setTop (mkF m 87 #[.val (.ref a), .val (.long q9), .second, .val (.int (-2 : Int32)), .val (.int (1 : Int32))] [(.int (2 : Int32)), (.ref aS), (.int (1 : Int32)), (.ref aS)]))
  refine OGo.step (fun uK kK => XS.aloadN X8.here hx rfl (hb hby d4_87) rfl rfl kK) ?_
  show OGo p e below _ (T8.setTop (mkF m 88 #[.val (.ref a), .val (.long q9), .second, .val (.int (-2 : Int32)), .val (.int (1 : Int32))] [(.ref a), (.int (2 : Int32)), (.ref aS), (.int (1 : Int32)), (.ref aS)]))
  obtain ⟨T10, X10, e10, st10⟩ := getF X8 hx hZ hown (host := "") (Or.inl (hw _ (List.mem_of_getElem? (i := 29) rfl))) Via.refl e8 Fn (g := (mkF m 88 #[.val (.ref a), .val (.long q9), .second, .val (.int (-2 : Int32)), .val (.int (1 : Int32))] [(.ref a), (.int (2 : Int32)), (.ref aS), (.int (1 : Int32)), (.ref aS)])) rfl rfl (hb hby d4_88)
  refine OGo.step (fun uK kK => st10 uK kK) ?_
  show OGo p e below _ (T10.setTop (mkF m 91 #[.val (.ref a), .val (.long q9), .second, .val (.int (-2 : Int32)), .val (.int (1 : Int32))] [(.int (1 : Int32)), (.int (2 : Int32)), (.ref aS), (.int (1 : Int32)), (.ref aS)]))
  refine OGo.step (fun uK kK => XS.iload X10.here hx rfl (hb hby d4_91) rfl kK) ?_
  show OGo p e below _ (T10.setTop (mkF m 93 #[.val (.ref a), .val (.long q9), .second, .val (.int (-2 : Int32)), .val (.int (1 : Int32))] [(.int (1 : Int32)), (.int (1 : Int32)), (.int (2 : Int32)), (.ref aS), (.int (1 : Int32)), (.ref aS)]))
  refine OGo.step (fun uK kK => XS.isub X10.here hx rfl (hb hby d4_93) rfl kK) ?_
  show OGo p e below _ (T10.setTop (mkF m 94 #[.val (.ref a), .val (.long q9), .second, .val (.int (-2 : Int32)), .val (.int (1 : Int32))] [(.int ((1 : Int32) - (1 : Int32))), (.int (2 : Int32)), (.ref aS), (.int (1 : Int32)), (.ref aS)]))
  have ez11 : ((1 : Int32) - (1 : Int32)) = (0 : Int32) := by decide
  rw [ez11]
  show OGo p e below _ (T10.setTop (mkF m 94 #[.val (.ref a), .val (.long q9), .second, .val (.int (-2 : Int32)), .val (.int (1 : Int32))] [(.int (0 : Int32)), (.int (2 : Int32)), (.ref aS), (.int (1 : Int32)), (.ref aS)]))
  obtain ⟨T12, h12, L12, X12, e12, N12, K12, V12, st12⟩ := cpA X10 hx hZ hown (hw _ (List.mem_of_getElem? (i := 41) rfl)) (hw _ (List.mem_of_getElem? (i := 44) rfl)) (hw _ (List.mem_of_getElem? (i := 42) rfl)) (hw _ (List.mem_of_getElem? (i := 43) rfl)) e10 (sp := (1 : Int32)) (dp := (2 : Int32)) (nn := (0 : Int32)) (us := []) Vs Vs (Or.inl ⟨rfl, rfl⟩) (by decide) (by decide) (by decide) (by decide) (by decide) rfl (Nat.le_of_ble_eq_true rfl) N1 gS (g := (mkF m 94 #[.val (.ref a), .val (.long q9), .second, .val (.int (-2 : Int32)), .val (.int (1 : Int32))] [(.int (0 : Int32)), (.int (2 : Int32)), (.ref aS), (.int (1 : Int32)), (.ref aS)])) rfl (by rw [hml]; rfl) rfl (hb hby d4_94) (by decide) (W := 0) (by show 2 * 0 + _ ≤ _; exact Nat.le_of_eq rfl) (by decide)
  have V_aS_12 : Arv Z h12 aS kS .long (8 : Int32) [(.long s0_), (.long s1_), (.long s2_), (.long s3_), (.long s4_), (.long s5_), (.long s6_), (.long s7_)] (.long (0 : Int64)) := V12
  have Fs_13 := (Fs.keep K12 (ninS neS nin0))
  have Fh_14 := (Fh.keep K12 (ninS neS nin0))
  have Fn_15 := (Fn.keep K12 (ninS neS nin0))
  have Vh_17 := (Vh.keep K12 (ninS (Ne.symm neSH) nin0))
  have Ex_18 := (Ex.keep K12)
  have ZS12 : n0 ≤ h12.size := Nat.le_trans Z0 K12.1
  have KC12 : Keep h0 h12 [a, aS, aH] := (Keep.refl h0 [a, aS, aH]).trans K12 (allS (Or.inl (List.mem_of_getElem? (i := 1) rfl)) all0)
  refine OGo.step (fun uK kK => st12 uK kK) ?_
  show OGo p e below _ (T12.setTop (mkF m 97 #[.val (.ref a), .val (.long q9), .second, .val (.int (-2 : Int32)), .val (.int (1 : Int32))] []))
  refine OGo.step (fun uK kK => XS.aloadN X12.here hx rfl (hb hby d4_97) rfl rfl kK) ?_
  show OGo p e below _ (T12.setTop (mkF m 98 #[.val (.ref a), .val (.long q9), .second, .val (.int (-2 : Int32)), .val (.int (1 : Int32))] [(.ref a)]))
  obtain ⟨T19, X19, e19, st19⟩ := getF X12 hx hZ hown (host := "") (Or.inl (hw _ (List.mem_of_getElem? (i := 18) rfl))) Via.refl e12 Fh_14 (g := (mkF m 98 #[.val (.ref a), .val (.long q9), .second, .val (.int (-2 : Int32)), .val (.int (1 : Int32))] [(.ref a)])) rfl rfl (hb hby d4_98)
  refine OGo.step (fun uK kK => st19 uK kK) ?_
  show OGo p e below _ (T19.setTop (mkF m 101 #[.val (.ref a), .val (.long q9), .second, .val (.int (-2 : Int32)), .val (.int (1 : Int32))] [(.ref aH)]))
  refine OGo.step (fun uK kK => XS.iload X19.here hx rfl (hb hby d4_101) rfl kK) ?_
  show OGo p e below _ (T19.setTop (mkF m 103 #[.val (.ref a), .val (.long q9), .second, .val (.int (-2 : Int32)), .val (.int (1 : Int32))] [(.int (1 : Int32)), (.ref aH)]))
  refine OGo.step (fun uK kK => XS.aloadN X19.here hx rfl (hb hby d4_103) rfl rfl kK) ?_
  show OGo p e below _ (T19.setTop (mkF m 104 #[.val (.ref a), .val (.long q9), .second, .val (.int (-2 : Int32)), .val (.int (1 : Int32))] [(.ref a), (.int (1 : Int32)), (.ref aH)]))
  obtain ⟨T20, X20, e20, st20⟩ := getF X19 hx hZ hown (host := "") (Or.inl (hw _ (List.mem_of_getElem? (i := 18) rfl))) Via.refl e19 Fh_14 (g := (mkF m 104 #[.val (.ref a), .val (.long q9), .second, .val (.int (-2 : Int32)), .val (.int (1 : Int32))] [(.ref a), (.int (1 : Int32)), (.ref aH)])) rfl rfl (hb hby d4_104)
  refine OGo.step (fun uK kK => st20 uK kK) ?_
  show OGo p e below _ (T20.setTop (mkF m 107 #[.val (.ref a), .val (.long q9), .second, .val (.int (-2 : Int32)), .val (.int (1 : Int32))] [(.ref aH), (.int (1 : Int32)), (.ref aH)]))
  refine OGo.step (fun uK kK => XS.iload X20.here hx rfl (hb hby d4_107) rfl kK) ?_
  show OGo p e below _ (T20.setTop (mkF m 109 #[.val (.ref a), .val (.long q9), .second, .val (.int (-2 : Int32)), .val (.int (1 : Int32))] [(.int (1 : Int32)), (.ref aH), (.int (1 : Int32)), (.ref aH)]))
  refine OGo.step (fun uK kK => XS.iconst X20.here hx rfl (hb hby d4_109) kK) ?_
  show OGo p e below _ (T20.setTop (mkF m 110 #[.val (.ref a), .val (.long q9), .second, .val (.int (-2 : Int32)), .val (.int (1 : Int32))] [(.int (1 : Int32)), (.int (1 : Int32)), (.ref aH), (.int (1 : Int32)), (.ref aH)]))
  refine OGo.step (fun uK kK => XS.iadd X20.here hx rfl (hb hby d4_110) rfl kK) ?_
  show OGo p e below _ (T20.setTop (mkF m 111 #[.val (.ref a), .val (.long q9), .second, .val (.int (-2 : Int32)), .val (.int (1 : Int32))] [(.int ((1 : Int32) + (1 : Int32))), (.ref aH), (.int (1 : Int32)), (.ref aH)]))
  have ez21 : ((1 : Int32) + (1 : Int32)) = (2 : Int32) := by decide
  rw [ez21]
  show OGo p e below _ (T20.setTop (mkF m 111 #[.val (.ref a), .val (.long q9), .second, .val (.int (-2 : Int32)), .val (.int (1 : Int32))] [(.int (2 : Int32)), (.ref aH), (.int (1 : Int32)), (.ref aH)]))
  refine OGo.step (fun uK kK => XS.aloadN X20.here hx rfl (hb hby d4_111) rfl rfl kK) ?_
  show OGo p e below _ (T20.setTop (mkF m 112 #[.val (.ref a), .val (.long q9), .second, .val (.int (-2 : Int32)), .val (.int (1 : Int32))] [(.ref a), (.int (2 : Int32)), (.ref aH), (.int (1 : Int32)), (.ref aH)]))
  obtain ⟨T22, X22, e22, st22⟩ := getF X20 hx hZ hown (host := "") (Or.inl (hw _ (List.mem_of_getElem? (i := 29) rfl))) Via.refl e20 Fn_15 (g := (mkF m 112 #[.val (.ref a), .val (.long q9), .second, .val (.int (-2 : Int32)), .val (.int (1 : Int32))] [(.ref a), (.int (2 : Int32)), (.ref aH), (.int (1 : Int32)), (.ref aH)])) rfl rfl (hb hby d4_112)
  refine OGo.step (fun uK kK => st22 uK kK) ?_
  show OGo p e below _ (T22.setTop (mkF m 115 #[.val (.ref a), .val (.long q9), .second, .val (.int (-2 : Int32)), .val (.int (1 : Int32))] [(.int (1 : Int32)), (.int (2 : Int32)), (.ref aH), (.int (1 : Int32)), (.ref aH)]))
  refine OGo.step (fun uK kK => XS.iload X22.here hx rfl (hb hby d4_115) rfl kK) ?_
  show OGo p e below _ (T22.setTop (mkF m 117 #[.val (.ref a), .val (.long q9), .second, .val (.int (-2 : Int32)), .val (.int (1 : Int32))] [(.int (1 : Int32)), (.int (1 : Int32)), (.int (2 : Int32)), (.ref aH), (.int (1 : Int32)), (.ref aH)]))
  refine OGo.step (fun uK kK => XS.isub X22.here hx rfl (hb hby d4_117) rfl kK) ?_
  show OGo p e below _ (T22.setTop (mkF m 118 #[.val (.ref a), .val (.long q9), .second, .val (.int (-2 : Int32)), .val (.int (1 : Int32))] [(.int ((1 : Int32) - (1 : Int32))), (.int (2 : Int32)), (.ref aH), (.int (1 : Int32)), (.ref aH)]))
  have ez23 : ((1 : Int32) - (1 : Int32)) = (0 : Int32) := by decide
  rw [ez23]
  show OGo p e below _ (T22.setTop (mkF m 118 #[.val (.ref a), .val (.long q9), .second, .val (.int (-2 : Int32)), .val (.int (1 : Int32))] [(.int (0 : Int32)), (.int (2 : Int32)), (.ref aH), (.int (1 : Int32)), (.ref aH)]))
  obtain ⟨T24, h24, L24, X24, e24, N24, K24, V24, st24⟩ := cpA X22 hx hZ hown (hw _ (List.mem_of_getElem? (i := 41) rfl)) (hw _ (List.mem_of_getElem? (i := 44) rfl)) (hw _ (List.mem_of_getElem? (i := 42) rfl)) (hw _ (List.mem_of_getElem? (i := 43) rfl)) e22 (sp := (1 : Int32)) (dp := (2 : Int32)) (nn := (0 : Int32)) (us := []) Vh_17 Vh_17 (Or.inl ⟨rfl, rfl⟩) (by decide) (by decide) (by decide) (by decide) (by decide) rfl (Nat.le_of_ble_eq_true rfl) N12 gH (g := (mkF m 118 #[.val (.ref a), .val (.long q9), .second, .val (.int (-2 : Int32)), .val (.int (1 : Int32))] [(.int (0 : Int32)), (.int (2 : Int32)), (.ref aH), (.int (1 : Int32)), (.ref aH)])) rfl (by rw [hml]; rfl) rfl (hb hby d4_118) (by decide) (W := 0) (by show 2 * 0 + _ ≤ _; exact Nat.le_of_eq rfl) (by decide)
  have V_aH_24 : Arv Z h24 aH kH .int (8 : Int32) [(.int k0_), (.int k1_), (.int k2_), (.int k3_), (.int k4_), (.int k5_), (.int k6_), (.int k7_)] (.int (0 : Int32)) := V24
  have Fs_25 := (Fs_13.keep K24 (ninS neH nin0))
  have Fh_26 := (Fh_14.keep K24 (ninS neH nin0))
  have Fn_27 := (Fn_15.keep K24 (ninS neH nin0))
  have Ex_29 := (Ex_18.keep K24)
  have V_aS_30 := (V_aS_12.keep K24 (ninS neSH nin0))
  have ZS24 : n0 ≤ h24.size := Nat.le_trans ZS12 K24.1
  have KC24 : Keep h0 h24 [a, aS, aH] := KC12.trans K24 (allS (Or.inl (List.mem_of_getElem? (i := 2) rfl)) all0)
  refine OGo.step (fun uK kK => st24 uK kK) ?_
  show OGo p e below _ (T24.setTop (mkF m 121 #[.val (.ref a), .val (.long q9), .second, .val (.int (-2 : Int32)), .val (.int (1 : Int32))] []))
  refine OGo.step (fun uK kK => XS.aloadN X24.here hx rfl (hb hby d4_121) rfl rfl kK) ?_
  show OGo p e below _ (T24.setTop (mkF m 122 #[.val (.ref a), .val (.long q9), .second, .val (.int (-2 : Int32)), .val (.int (1 : Int32))] [(.ref a)]))
  obtain ⟨T31, X31, e31, st31⟩ := getF X24 hx hZ hown (host := "") (Or.inl (hw _ (List.mem_of_getElem? (i := 15) rfl))) Via.refl e24 Fs_25 (g := (mkF m 122 #[.val (.ref a), .val (.long q9), .second, .val (.int (-2 : Int32)), .val (.int (1 : Int32))] [(.ref a)])) rfl rfl (hb hby d4_122)
  refine OGo.step (fun uK kK => st31 uK kK) ?_
  show OGo p e below _ (T31.setTop (mkF m 125 #[.val (.ref a), .val (.long q9), .second, .val (.int (-2 : Int32)), .val (.int (1 : Int32))] [(.ref aS)]))
  refine OGo.step (fun uK kK => XS.iload X31.here hx rfl (hb hby d4_125) rfl kK) ?_
  show OGo p e below _ (T31.setTop (mkF m 127 #[.val (.ref a), .val (.long q9), .second, .val (.int (-2 : Int32)), .val (.int (1 : Int32))] [(.int (1 : Int32)), (.ref aS)]))
  refine OGo.step (fun uK kK => XS.lloadN X31.here hx rfl (hb hby d4_127) rfl kK) ?_
  show OGo p e below _ (T31.setTop (mkF m 128 #[.val (.ref a), .val (.long q9), .second, .val (.int (-2 : Int32)), .val (.int (1 : Int32))] [(.long q9), (.int (1 : Int32)), (.ref aS)]))
  obtain ⟨cl32, Ar32, q32, S32, M32, H32, G32⟩ := id V_aS_30
  have hin32 : ¬ ((1 : Int32) < 0 ∨ cl32.slots.size ≤ ((1 : Int32)).toNatClampNeg) := inb_of S32 ⟨by decide, by decide⟩
  obtain ⟨T32, h32, X32, e32, W32, st32⟩ := stJ X31 hx hZ e31 Ar32 (j := (1 : Int32)) hin32 (g := (mkF m 128 #[.val (.ref a), .val (.long q9), .second, .val (.int (-2 : Int32)), .val (.int (1 : Int32))] [(.long q9), (.int (1 : Int32)), (.ref aS)])) rfl rfl (hb hby d4_128)
  have V_aS_32 : Arv Z h32 aS kS .long (8 : Int32) [(.long s0_), (.long q9), (.long s2_), (.long s3_), (.long s4_), (.long s5_), (.long s6_), (.long s7_)] (.long (0 : Int64)) := Arv.set Ar32 q32 S32 M32 H32 G32 rfl W32 1 rfl (Nat.le_of_ble_eq_true rfl)
  have Fs_33 := (Fs_25.other W32 (Or.inl neS))
  have Fh_34 := (Fh_26.other W32 (Or.inl neS))
  have Fn_35 := (Fn_27.other W32 (Or.inl neS))
  have Ex_36 := (Ex_29.wr W32)
  have V_aH_38 := (V_aH_24.other W32 (Ne.symm neSH))
  have ZS32 : n0 ≤ h32.size := Nat.le_trans ZS24 (Keep.of_wr W32).1
  have KC32 : Keep h0 h32 [a, aS, aH] := KC24.wr W32 (Or.inl (List.mem_of_getElem? (i := 1) rfl))
  have N32 := Fr.snoc X32 N24 gS
  refine OGo.step (fun uK kK => st32 uK kK) ?_
  show OGo p e below _ (T32.setTop (mkF m 129 #[.val (.ref a), .val (.long q9), .second, .val (.int (-2 : Int32)), .val (.int (1 : Int32))] []))
  refine OGo.step (fun uK kK => XS.aloadN X32.here hx rfl (hb hby d4_129) rfl rfl kK) ?_
  show OGo p e below _ (T32.setTop (mkF m 130 #[.val (.ref a), .val (.long q9), .second, .val (.int (-2 : Int32)), .val (.int (1 : Int32))] [(.ref a)]))
  obtain ⟨T39, X39, e39, st39⟩ := getF X32 hx hZ hown (host := "") (Or.inl (hw _ (List.mem_of_getElem? (i := 18) rfl))) Via.refl e32 Fh_34 (g := (mkF m 130 #[.val (.ref a), .val (.long q9), .second, .val (.int (-2 : Int32)), .val (.int (1 : Int32))] [(.ref a)])) rfl rfl (hb hby d4_130)
  refine OGo.step (fun uK kK => st39 uK kK) ?_
  show OGo p e below _ (T39.setTop (mkF m 133 #[.val (.ref a), .val (.long q9), .second, .val (.int (-2 : Int32)), .val (.int (1 : Int32))] [(.ref aH)]))
  refine OGo.step (fun uK kK => XS.iload X39.here hx rfl (hb hby d4_133) rfl kK) ?_
  show OGo p e below _ (T39.setTop (mkF m 135 #[.val (.ref a), .val (.long q9), .second, .val (.int (-2 : Int32)), .val (.int (1 : Int32))] [(.int (1 : Int32)), (.ref aH)]))
  refine OGo.step (fun uK kK => XS.iconst X39.here hx rfl (hb hby d4_135) kK) ?_
  show OGo p e below _ (T39.setTop (mkF m 136 #[.val (.ref a), .val (.long q9), .second, .val (.int (-2 : Int32)), .val (.int (1 : Int32))] [(.int (1 : Int32)), (.int (1 : Int32)), (.ref aH)]))
  obtain ⟨cl40, Ar40, q40, S40, M40, H40, G40⟩ := id V_aH_38
  have hin40 : ¬ ((1 : Int32) < 0 ∨ cl40.slots.size ≤ ((1 : Int32)).toNatClampNeg) := inb_of S40 ⟨by decide, by decide⟩
  obtain ⟨T40, h40, X40, e40, W40, st40⟩ := stI X39 hx hZ e39 Ar40 (j := (1 : Int32)) hin40 (g := (mkF m 136 #[.val (.ref a), .val (.long q9), .second, .val (.int (-2 : Int32)), .val (.int (1 : Int32))] [(.int (1 : Int32)), (.int (1 : Int32)), (.ref aH)])) rfl rfl (hb hby d4_136)
  have V_aH_40 : Arv Z h40 aH kH .int (8 : Int32) [(.int k0_), (.int (1 : Int32)), (.int k2_), (.int k3_), (.int k4_), (.int k5_), (.int k6_), (.int k7_)] (.int (0 : Int32)) := Arv.set Ar40 q40 S40 M40 H40 G40 rfl W40 1 rfl (Nat.le_of_ble_eq_true rfl)
  have Fs_41 := (Fs_33.other W40 (Or.inl neH))
  have Fh_42 := (Fh_34.other W40 (Or.inl neH))
  have Fn_43 := (Fn_35.other W40 (Or.inl neH))
  have Ex_44 := (Ex_36.wr W40)
  have V_aS_46 := (V_aS_32.other W40 neSH)
  have ZS40 : n0 ≤ h40.size := Nat.le_trans ZS32 (Keep.of_wr W40).1
  have KC40 : Keep h0 h40 [a, aS, aH] := KC32.wr W40 (Or.inl (List.mem_of_getElem? (i := 2) rfl))
  have N40 := Fr.snoc X40 N32 gH
  refine OGo.step (fun uK kK => st40 uK kK) ?_
  show OGo p e below _ (T40.setTop (mkF m 137 #[.val (.ref a), .val (.long q9), .second, .val (.int (-2 : Int32)), .val (.int (1 : Int32))] []))
  refine OGo.step (fun uK kK => XS.aloadN X40.here hx rfl (hb hby d4_137) rfl rfl kK) ?_
  show OGo p e below _ (T40.setTop (mkF m 138 #[.val (.ref a), .val (.long q9), .second, .val (.int (-2 : Int32)), .val (.int (1 : Int32))] [(.ref a)]))
  refine OGo.step (fun uK kK => XS.dup X40.here hx rfl (hb hby d4_138) rfl rfl kK) ?_
  show OGo p e below _ (T40.setTop (mkF m 139 #[.val (.ref a), .val (.long q9), .second, .val (.int (-2 : Int32)), .val (.int (1 : Int32))] [(.ref a), (.ref a)]))
  obtain ⟨T47, X47, e47, st47⟩ := getF X40 hx hZ hown (host := "") (Or.inl (hw _ (List.mem_of_getElem? (i := 29) rfl))) Via.refl e40 Fn_43 (g := (mkF m 139 #[.val (.ref a), .val (.long q9), .second, .val (.int (-2 : Int32)), .val (.int (1 : Int32))] [(.ref a), (.ref a)])) rfl rfl (hb hby d4_139)
  refine OGo.step (fun uK kK => st47 uK kK) ?_
  show OGo p e below _ (T47.setTop (mkF m 142 #[.val (.ref a), .val (.long q9), .second, .val (.int (-2 : Int32)), .val (.int (1 : Int32))] [(.int (1 : Int32)), (.ref a)]))
  refine OGo.step (fun uK kK => XS.iconst X47.here hx rfl (hb hby d4_142) kK) ?_
  show OGo p e below _ (T47.setTop (mkF m 143 #[.val (.ref a), .val (.long q9), .second, .val (.int (-2 : Int32)), .val (.int (1 : Int32))] [(.int (1 : Int32)), (.int (1 : Int32)), (.ref a)]))
  refine OGo.step (fun uK kK => XS.iadd X47.here hx rfl (hb hby d4_143) rfl kK) ?_
  show OGo p e below _ (T47.setTop (mkF m 144 #[.val (.ref a), .val (.long q9), .second, .val (.int (-2 : Int32)), .val (.int (1 : Int32))] [(.int ((1 : Int32) + (1 : Int32))), (.ref a)]))
  have ez48 : ((1 : Int32) + (1 : Int32)) = (2 : Int32) := by decide
  rw [ez48]
  show OGo p e below _ (T47.setTop (mkF m 144 #[.val (.ref a), .val (.long q9), .second, .val (.int (-2 : Int32)), .val (.int (1 : Int32))] [(.int (2 : Int32)), (.ref a)]))
  obtain ⟨T49, h49, X49, e49, W49, st49⟩ := putF X47 hx hZ hown (host := "") (Or.inl (hw _ (List.mem_of_getElem? (i := 29) rfl))) Via.refl e47 Fn_43 Ex_44 (Or.inl (hw _ (List.mem_of_getElem? (i := 30) rfl))) (hw _ (List.mem_of_getElem? (i := 6) rfl)) (ty := .int) (by decide) rfl rfl (g := (mkF m 144 #[.val (.ref a), .val (.long q9), .second, .val (.int (-2 : Int32)), .val (.int (1 : Int32))] [(.int (2 : Int32)), (.ref a)])) rfl rfl (hb hby d4_144)
  have Fw49 := Fn_43.same W49
  have Fs_50 := (Fs_41.other W49 (Or.inr (slot_ne (Or.inl (hw _ (List.mem_of_getElem? (i := 16) rfl))) (Or.inl (hw _ (List.mem_of_getElem? (i := 30) rfl))) (by decide) (t := (.array .long)) (t' := .int) (by decide) (by decide))))
  have Fh_51 := (Fh_42.other W49 (Or.inr (slot_ne (Or.inl (hw _ (List.mem_of_getElem? (i := 19) rfl))) (Or.inl (hw _ (List.mem_of_getElem? (i := 30) rfl))) (by decide) (t := (.array .int)) (t' := .int) (by decide) (by decide))))
  have Ex_53 := (Ex_44.wr W49)
  have V_aS_54 := (V_aS_46.other W49 (Ne.symm neS))
  have V_aH_55 := (V_aH_40.other W49 (Ne.symm neH))
  have ZS49 : n0 ≤ h49.size := Nat.le_trans ZS40 (Keep.of_wr W49).1
  have KC49 : Keep h0 h49 [a, aS, aH] := KC40.wr W49 (Or.inl (List.mem_of_getElem? (i := 0) rfl))
  have N49 := Fr.snoc X49 N40 ga
  refine OGo.step (fun uK kK => st49 uK kK) ?_
  show OGo p e below _ (T49.setTop (mkF m 147 #[.val (.ref a), .val (.long q9), .second, .val (.int (-2 : Int32)), .val (.int (1 : Int32))] []))
  exact OGo.retV X49 hx Bd.notSynchronized Bd.returns (hb hby d4_147) (by decide) (by decide) (by show Qa1 Z a aS kS s0_ s1_ s2_ s3_ s4_ s5_ s6_ s7_ aH kH k0_ k1_ k2_ k3_ k4_ k5_ k6_ k7_ q9 h0 n0 _ T49.heap _; rw [e49]; exact ⟨rfl, N49, KC49, Fs_50, Fh_51, Fw49, V_aS_54, V_aH_55⟩)
theorem d4_10 : decode prog_55_method_2_code 10 = .ok (.aload_n 0, 1) := by decide +kernel
theorem d4_11 : decode prog_55_method_2_code 11 = .ok (.getfield 13, 3) := by decide +kernel
theorem d4_14 : decode prog_55_method_2_code 14 = .ok (.iload_n 3, 1) := by decide +kernel
theorem d4_15 : decode prog_55_method_2_code 15 = .ok (.dup2, 1) := by decide +kernel
theorem d4_16 : decode prog_55_method_2_code 16 = .ok (.iaload, 1) := by decide +kernel
theorem d4_17 : decode prog_55_method_2_code 17 = .ok (.iconst 1, 1) := by decide +kernel
theorem d4_18 : decode prog_55_method_2_code 18 = .ok (.iadd, 1) := by decide +kernel
theorem d4_19 : decode prog_55_method_2_code 19 = .ok (.iastore, 1) := by decide +kernel
theorem d4_20 : decode prog_55_method_2_code 20 = .ok (.return_, 1) := by decide +kernel
theorem pnae : plainName "com/example/graph_of_conflicts/graphofconflicts/engine/OpenSnapshots" = true := by first | (simp [plainName, overriddenIn]; done) | decide +kernel
theorem pdae_0 : parseMethodDescriptor "(J)I" = some ⟨[.long], some .int⟩ := by decide +kernel
theorem efae (m : MethodId) (x0 : Addr) (x1 : Int64) : entryFrame m #[(.ref x0), (.long x1)] 5 = mkF m 0 #[.val (.ref x0), .val (.long x1), .second, .unset, .unset] [] := by first | (simp [entryFrame, mkF, argsToLocals, Value.category]; done) | rfl
def Qae (Z : State) (a : Addr) (aS : Addr) (kS : ClassId) (s0_ : Int64) (s1_ : Int64) (s2_ : Int64) (s3_ : Int64) (s4_ : Int64) (s5_ : Int64) (s6_ : Int64) (s7_ : Int64) (aH : Addr) (kH : ClassId) (k0_ : Int32) (k1_ : Int32) (k2_ : Int32) (k3_ : Int32) (k4_ : Int32) (k5_ : Int32) (k6_ : Int32) (k7_ : Int32) (h0 : Heap) (n0 : Nat) (v : Option Value) (h : Heap) (L : List Loc) : Prop := v = none ∧ Fr n0 L ∧ Keep h0 h [a, aS, aH] ∧ Fld Z h a "com/example/graph_of_conflicts/graphofconflicts/engine/OpenSnapshots" "snapshots" "[J" (.ref aS) ∧ Fld Z h a "com/example/graph_of_conflicts/graphofconflicts/engine/OpenSnapshots" "holders" "[I" (.ref aH) ∧ Fld Z h a "com/example/graph_of_conflicts/graphofconflicts/engine/OpenSnapshots" "size" "I" (.int (1 : Int32)) ∧ Arv Z h aS kS .long (8 : Int32) [(.long s0_), (.long s1_), (.long s2_), (.long s3_), (.long s4_), (.long s5_), (.long s6_), (.long s7_)] (.long (0 : Int64)) ∧ Arv Z h aH kH .int (8 : Int32) [(.int (2 : Int32)), (.int k1_), (.int k2_), (.int k3_), (.int k4_), (.int k5_), (.int k6_), (.int k7_)] (.int (0 : Int32))
set_option maxRecDepth 65536 in
set_option maxHeartbeats 40000000 in
theorem rmae (l : Launch) (Z : State) (a0 : Array Value) (hw : ∀ d ∈ tables_1, d.before a0 Z = true) (ws : List Jvm.Cond) (a : Addr) (aS : Addr) (kS : ClassId) (s0_ : Int64) (s1_ : Int64) (s2_ : Int64) (s3_ : Int64) (s4_ : Int64) (s5_ : Int64) (s6_ : Int64) (s7_ : Int64) (aH : Addr) (kH : ClassId) (k0_ : Int32) (k1_ : Int32) (k2_ : Int32) (k3_ : Int32) (k4_ : Int32) (k5_ : Int32) (k6_ : Int32) (k7_ : Int32) (h0 : Heap) (n0 : Nat) (Z0 : n0 ≤ h0.size) (Fs : Fld Z h0 a "com/example/graph_of_conflicts/graphofconflicts/engine/OpenSnapshots" "snapshots" "[J" (.ref aS)) (Fh : Fld Z h0 a "com/example/graph_of_conflicts/graphofconflicts/engine/OpenSnapshots" "holders" "[I" (.ref aH)) (Fn : Fld Z h0 a "com/example/graph_of_conflicts/graphofconflicts/engine/OpenSnapshots" "size" "I" (.int (1 : Int32))) (Vs : Arv Z h0 aS kS .long (8 : Int32) [(.long s0_), (.long s1_), (.long s2_), (.long s3_), (.long s4_), (.long s5_), (.long s6_), (.long s7_)] (.long (0 : Int64))) (Vh : Arv Z h0 aH kH .int (8 : Int32) [(.int (1 : Int32)), (.int k1_), (.int k2_), (.int k3_), (.int k4_), (.int k5_), (.int k6_), (.int k7_)] (.int (0 : Int32))) (Ex : Exa Z h0 a "com/example/graph_of_conflicts/graphofconflicts/engine/OpenSnapshots") (ga : n0 ≤ a) (gS : n0 ≤ aS) (gH : n0 ≤ aH) (neS : a ≠ aS) (neH : a ≠ aH) (neSH : aS ≠ aH) :
    MetFree l (⟨"com/example/graph_of_conflicts/graphofconflicts/engine/OpenSnapshots", "add", "(J)V"⟩ : MethodName) (head1 (Jvm.Cond.code (⟨"com/example/graph_of_conflicts/graphofconflicts/engine/OpenSnapshots", "add", "(J)V"⟩ : MethodName) prog_55_method_2_code 5 none :: ws) ({ frames := 3, cells := 0, slots := 0, locals := 63 } : Room)) (fun aQ UQ => aQ = #[(.ref a), (.long s0_)] ∧ Z.Warmed39 UQ.vm ∧ UQ.heap = h0) (fun _ _ _ _ _ => True) (fun _ U o U' => ∃ v L, o = .returned v ∧ Qae Z a aS kS s0_ s1_ s2_ s3_ s4_ s5_ s6_ s7_ aH kH k0_ k1_ k2_ k3_ k4_ k5_ k6_ k7_ h0 n0 v U'.heap L ∧ FrameEnd U o U' L ({ frames := 3, cells := 0, slots := 0, locals := 63 } : Room).cells ({ frames := 3, cells := 0, slots := 0, locals := 63 } : Room).slots) := by
  refine MetFree.of_bodySF (plainFor_of_name pnae) hisR ?_
  intro p e s m args below meth c s₁ Bd hml0 hP hK
  obtain ⟨rfl, hZ, hh⟩ := hP
  have hx := Bd.exec
  have hby := Bd.bytes
  have hml : c.maxLocals = 5 := hml0
  have hown : s.vm.findClass "com/example/graph_of_conflicts/graphofconflicts/engine/OpenSnapshots" = some m.cls := findClass_of_methodNamed Bd.named
  have hnm := (name_of_methodNamed Bd.named Bd.method).1
  have X0 : Stand p l e ({ frames := 3, cells := 0, slots := 0, locals := 63 } : Room) s m #[(.ref a), (.long s0_)] below meth c s₁ [] 0 0 := Stand.of_body Bd
  have e0 : s₁.heap = h0 := by rw [← hh, Bd.state]; rfl
  have N0 := Fr.nil n0
  show OGo p e below (OPost s (Qae Z a aS kS s0_ s1_ s2_ s3_ s4_ s5_ s6_ s7_ aH kH k0_ k1_ k2_ k3_ k4_ k5_ k6_ k7_ h0 n0) ({ frames := 3, cells := 0, slots := 0, locals := 63 } : Room).cells ({ frames := 3, cells := 0, slots := 0, locals := 63 } : Room).slots) (s₁.setTop (entryFrame m #[(.ref a), (.long s0_)] 5))
  refine OGo.step (fun uK kK => castTop (efae m a s0_) kK) ?_
  show OGo p e below _ (s₁.setTop (mkF m 0 #[.val (.ref a), .val (.long s0_), .second, .unset, .unset] []))
  refine OGo.step (fun uK kK => XS.aloadN X0.here hx rfl (hb hby d4_0) rfl rfl kK) ?_
  show OGo p e below _ (s₁.setTop (mkF m 1 #[.val (.ref a), .val (.long s0_), .second, .unset, .unset] [(.ref a)]))
  refine OGo.step (fun uK kK => XS.lloadN X0.here hx rfl (hb hby d4_1) rfl kK) ?_
  show OGo p e below _ (s₁.setTop (mkF m 2 #[.val (.ref a), .val (.long s0_), .second, .unset, .unset] [(.long s0_), (.ref a)]))
  obtain ⟨cq1, qc1, qd1⟩ := Ex.cell
  obtain ⟨_, _, ⟨T1, Lq1, kq_1, nq_1⟩, -, X1, ⟨Lc1, hQ1, lq1, yq1, zq1⟩, st1⟩ := X0.privateBack hx (y := (⟨"com/example/graph_of_conflicts/graphofconflicts/engine/OpenSnapshots", "indexOf", "(J)I"⟩ : MethodName)) hown (mvT hZ (hw _ (List.mem_of_getElem? (i := 25) rfl))) (mvT hZ (hw _ (List.mem_of_getElem? (i := 26) rfl))) (own_selP (mvT hZ (hw _ (List.mem_of_getElem? (i := 6) rfl))) (mvP hZ (hw _ (List.mem_of_getElem? (i := 27) rfl))) (mvT hZ (hw _ (List.mem_of_getElem? (i := 26) rfl))) (by decide)) (Cond.privateMethod_at (mvP hZ (hw _ (List.mem_of_getElem? (i := 27) rfl)) (args := #[]))) (mvT hZ (hw _ (List.mem_of_getElem? (i := 28) rfl))) (by decide) (backOf (W := 0) (rmx_h0 l Z a0 hw [] a aS kS s0_ s1_ s2_ s3_ s4_ s5_ s6_ s7_ h0 n0 Z0 Fs Fn Vs) hZ (hw _ (List.mem_of_getElem? (i := 28) rfl)) (hw _ (List.mem_of_getElem? (i := 7) rfl)) (by decide) (by decide)) (g := (mkF m 2 #[.val (.ref a), .val (.long s0_), .second, .unset, .unset] [(.long s0_), (.ref a)])) rfl (by rw [hml]; rfl) (Steps.refl _) (a := a) (by rw [e0]; exact qc1) qd1 (argsL := [(.long s0_)]) (rest := []) (lenOf pdae_0 rfl) rfl (by show 2 * 0 + _ ≤ _; exact Nat.le_of_eq rfl) (hb hby d4_2) (fun _ _ => ⟨rfl, e0, (by decide : 0 + 0 ≤ _), (by decide : 0 + 0 ≤ _)⟩)
  dsimp only [Pt.U, Pt.locs, Pt.cells, Pt.slots] at X1 lq1 yq1 zq1 st1 hQ1
  subst lq1 yq1 zq1
  obtain ⟨rfl, Nq1, e1⟩ := hQ1
  have N1 := Fr.app N0 Nq1
  refine OGo.steps st1 ?_
  show OGo p e below _ (T1.setTop (mkF m 5 #[.val (.ref a), .val (.long s0_), .second, .unset, .unset] [(.int (0 : Int32))]))
  refine OGo.step (fun uK kK => XS.istoreN X1.here hx rfl (hb hby d4_5) rfl (l' := #[.val (.ref a), .val (.long s0_), .second, .val (.int (0 : Int32)), .unset]) rfl kK) ?_
  show OGo p e below _ (T1.setTop (mkF m 6 #[.val (.ref a), .val (.long s0_), .second, .val (.int (0 : Int32)), .unset] []))
  refine OGo.step (fun uK kK => XS.iloadN X1.here hx rfl (hb hby d4_6) rfl kK) ?_
  show OGo p e below _ (T1.setTop (mkF m 7 #[.val (.ref a), .val (.long s0_), .second, .val (.int (0 : Int32)), .unset] [(.int (0 : Int32))]))
  have hc7 : ¬ ((0 : Int32) < (0 : Int32)) := by decide
  refine OGo.step (fun uK kK => XS.ifNo X1.here hx rfl (hb hby d4_7) rfl ((if0 _ _).trans (flt hc7).1) kK) ?_
  show OGo p e below _ (T1.setTop (mkF m 10 #[.val (.ref a), .val (.long s0_), .second, .val (.int (0 : Int32)), .unset] []))
  refine OGo.step (fun uK kK => XS.aloadN X1.here hx rfl (hb hby d4_10) rfl rfl kK) ?_
  show OGo p e below _ (T1.setTop (mkF m 11 #[.val (.ref a), .val (.long s0_), .second, .val (.int (0 : Int32)), .unset] [(.ref a)]))
  obtain ⟨T2, X2, e2, st2⟩ := getF X1 hx hZ hown (host := "") (Or.inl (hw _ (List.mem_of_getElem? (i := 18) rfl))) Via.refl e1 Fh (g := (mkF m 11 #[.val (.ref a), .val (.long s0_), .second, .val (.int (0 : Int32)), .unset] [(.ref a)])) rfl rfl (hb hby d4_11)
  refine OGo.step (fun uK kK => st2 uK kK) ?_
  show OGo p e below _ (T2.setTop (mkF m 14 #[.val (.ref a), .val (.long s0_), .second, .val (.int (0 : Int32)), .unset] [(.ref aH)]))
  refine OGo.step (fun uK kK => XS.iloadN X2.here hx rfl (hb hby d4_14) rfl kK) ?_
  show OGo p e below _ (T2.setTop (mkF m 15 #[.val (.ref a), .val (.long s0_), .second, .val (.int (0 : Int32)), .unset] [(.int (0 : Int32)), (.ref aH)]))
  refine OGo.step (t' := T2.setTop (mkF m 16 #[.val (.ref a), .val (.long s0_), .second, .val (.int (0 : Int32)), .unset] [(.int (0 : Int32)), (.ref aH), (.int (0 : Int32)), (.ref aH)])) (fun uK kK => ?_) ?_
  · show Steps p.tables e below (T2.setTop (mkF m 15 #[.val (.ref a), .val (.long s0_), .second, .val (.int (0 : Int32)), .unset] [(.int (0 : Int32)), (.ref aH)])) _
    jvm_step X2.here [X2.here.top, hx, (hb hby d4_15), Value.category]
    exact kK
  show OGo p e below _ (T2.setTop (mkF m 16 #[.val (.ref a), .val (.long s0_), .second, .val (.int (0 : Int32)), .unset] [(.int (0 : Int32)), (.ref aH), (.int (0 : Int32)), (.ref aH)]))
  obtain ⟨cl3, Ar3, q3, S3, M3, H3, G3⟩ := id Vh
  have hin3 : ¬ ((0 : Int32) < 0 ∨ cl3.slots.size ≤ ((0 : Int32)).toNatClampNeg) := inb_of S3 ⟨by decide, by decide⟩
  have hat3 : cl3.slots[((0 : Int32)).toNatClampNeg]? = some (.int (1 : Int32)) := H3.at hin3 rfl
  refine OGo.step (fun uK kK => X2.iaload hx (j := (0 : Int32)) (v := (.int (1 : Int32))) (by rw [e2]; exact Ar3.1) (State.isArrayOf_alike hZ.alike Ar3.2.1) Ar3.2.2 hin3 hat3 (g := (mkF m 16 #[.val (.ref a), .val (.long s0_), .second, .val (.int (0 : Int32)), .unset] [(.int (0 : Int32)), (.ref aH), (.int (0 : Int32)), (.ref aH)])) rfl rfl (hb hby d4_16) uK kK) ?_
  show OGo p e below _ (T2.setTop (mkF m 17 #[.val (.ref a), .val (.long s0_), .second, .val (.int (0 : Int32)), .unset] [(.int (1 : Int32)), (.int (0 : Int32)), (.ref aH)]))
  refine OGo.step (fun uK kK => XS.iconst X2.here hx rfl (hb hby d4_17) kK) ?_
  show OGo p e below _ (T2.setTop (mkF m 18 #[.val (.ref a), .val (.long s0_), .second, .val (.int (0 : Int32)), .unset] [(.int (1 : Int32)), (.int (1 : Int32)), (.int (0 : Int32)), (.ref aH)]))
  refine OGo.step (fun uK kK => XS.iadd X2.here hx rfl (hb hby d4_18) rfl kK) ?_
  show OGo p e below _ (T2.setTop (mkF m 19 #[.val (.ref a), .val (.long s0_), .second, .val (.int (0 : Int32)), .unset] [(.int ((1 : Int32) + (1 : Int32))), (.int (0 : Int32)), (.ref aH)]))
  have ez4 : ((1 : Int32) + (1 : Int32)) = (2 : Int32) := by decide
  rw [ez4]
  show OGo p e below _ (T2.setTop (mkF m 19 #[.val (.ref a), .val (.long s0_), .second, .val (.int (0 : Int32)), .unset] [(.int (2 : Int32)), (.int (0 : Int32)), (.ref aH)]))
  obtain ⟨cl5, Ar5, q5, S5, M5, H5, G5⟩ := id Vh
  have hin5 : ¬ ((0 : Int32) < 0 ∨ cl5.slots.size ≤ ((0 : Int32)).toNatClampNeg) := inb_of S5 ⟨by decide, by decide⟩
  obtain ⟨T5, h5, X5, e5, W5, st5⟩ := stI X2 hx hZ e2 Ar5 (j := (0 : Int32)) hin5 (g := (mkF m 19 #[.val (.ref a), .val (.long s0_), .second, .val (.int (0 : Int32)), .unset] [(.int (2 : Int32)), (.int (0 : Int32)), (.ref aH)])) rfl rfl (hb hby d4_19)
  have V_aH_5 : Arv Z h5 aH kH .int (8 : Int32) [(.int (2 : Int32)), (.int k1_), (.int k2_), (.int k3_), (.int k4_), (.int k5_), (.int k6_), (.int k7_)] (.int (0 : Int32)) := Arv.set Ar5 q5 S5 M5 H5 G5 rfl W5 0 rfl (Nat.le_of_ble_eq_true rfl)
  have Fs_6 := (Fs.other W5 (Or.inl neH))
  have Fh_7 := (Fh.other W5 (Or.inl neH))
  have Fn_8 := (Fn.other W5 (Or.inl neH))
  have Vs_9 := (Vs.other W5 neSH)
  have Ex_11 := (Ex.wr W5)
  have ZS5 : n0 ≤ h5.size := Nat.le_trans Z0 (Keep.of_wr W5).1
  have KC5 : Keep h0 h5 [a, aS, aH] := (Keep.refl h0 [a, aS, aH]).wr W5 (Or.inl (List.mem_of_getElem? (i := 2) rfl))
  have N5 := Fr.snoc X5 N1 gH
  refine OGo.step (fun uK kK => st5 uK kK) ?_
  show OGo p e below _ (T5.setTop (mkF m 20 #[.val (.ref a), .val (.long s0_), .second, .val (.int (0 : Int32)), .unset] []))
  exact OGo.retV X5 hx Bd.notSynchronized Bd.returns (hb hby d4_20) (by decide) (by decide) (by show Qae Z a aS kS s0_ s1_ s2_ s3_ s4_ s5_ s6_ s7_ aH kH k0_ k1_ k2_ k3_ k4_ k5_ k6_ k7_ h0 n0 _ T5.heap _; rw [e5]; exact ⟨rfl, N5, KC5, Fs_6, Fh_7, Fn_8, Vs_9, V_aH_5⟩)
theorem d10_0 : decode prog_55_method_3_code 0 = .ok (.aload_n 0, 1) := by decide +kernel
theorem d10_1 : decode prog_55_method_3_code 1 = .ok (.lload_n 1, 1) := by decide +kernel
theorem d10_2 : decode prog_55_method_3_code 2 = .ok (.invokevirtual 17, 3) := by decide +kernel
theorem d10_5 : decode prog_55_method_3_code 5 = .ok (.istore_n 3, 1) := by decide +kernel
theorem d10_6 : decode prog_55_method_3_code 6 = .ok (.aload_n 0, 1) := by decide +kernel
theorem d10_7 : decode prog_55_method_3_code 7 = .ok (.getfield 13, 3) := by decide +kernel
theorem d10_10 : decode prog_55_method_3_code 10 = .ok (.iload_n 3, 1) := by decide +kernel
theorem d10_11 : decode prog_55_method_3_code 11 = .ok (.dup2, 1) := by decide +kernel
theorem d10_12 : decode prog_55_method_3_code 12 = .ok (.iaload, 1) := by decide +kernel
theorem d10_13 : decode prog_55_method_3_code 13 = .ok (.iconst 1, 1) := by decide +kernel
theorem d10_14 : decode prog_55_method_3_code 14 = .ok (.isub, 1) := by decide +kernel
theorem d10_15 : decode prog_55_method_3_code 15 = .ok (.dup_x2, 1) := by decide +kernel
theorem d10_16 : decode prog_55_method_3_code 16 = .ok (.iastore, 1) := by decide +kernel
theorem d10_17 : decode prog_55_method_3_code 17 = .ok (.ifCond .le 5, 3) := by decide +kernel
theorem d10_22 : decode prog_55_method_3_code 22 = .ok (.aload_n 0, 1) := by decide +kernel
theorem d10_23 : decode prog_55_method_3_code 23 = .ok (.getfield 7, 3) := by decide +kernel
theorem d10_26 : decode prog_55_method_3_code 26 = .ok (.iload_n 3, 1) := by decide +kernel
theorem d10_27 : decode prog_55_method_3_code 27 = .ok (.iconst 1, 1) := by decide +kernel
theorem d10_28 : decode prog_55_method_3_code 28 = .ok (.iadd, 1) := by decide +kernel
theorem d10_29 : decode prog_55_method_3_code 29 = .ok (.aload_n 0, 1) := by decide +kernel
theorem d10_30 : decode prog_55_method_3_code 30 = .ok (.getfield 7, 3) := by decide +kernel
theorem d10_33 : decode prog_55_method_3_code 33 = .ok (.iload_n 3, 1) := by decide +kernel
theorem d10_34 : decode prog_55_method_3_code 34 = .ok (.aload_n 0, 1) := by decide +kernel
theorem d10_35 : decode prog_55_method_3_code 35 = .ok (.getfield 21, 3) := by decide +kernel
theorem d10_38 : decode prog_55_method_3_code 38 = .ok (.iload_n 3, 1) := by decide +kernel
theorem d10_39 : decode prog_55_method_3_code 39 = .ok (.isub, 1) := by decide +kernel
theorem d10_40 : decode prog_55_method_3_code 40 = .ok (.iconst 1, 1) := by decide +kernel
theorem d10_41 : decode prog_55_method_3_code 41 = .ok (.isub, 1) := by decide +kernel
theorem d10_42 : decode prog_55_method_3_code 42 = .ok (.invokestatic 34, 3) := by decide +kernel
theorem d10_45 : decode prog_55_method_3_code 45 = .ok (.aload_n 0, 1) := by decide +kernel
theorem d10_46 : decode prog_55_method_3_code 46 = .ok (.getfield 13, 3) := by decide +kernel
theorem d10_49 : decode prog_55_method_3_code 49 = .ok (.iload_n 3, 1) := by decide +kernel
theorem d10_50 : decode prog_55_method_3_code 50 = .ok (.iconst 1, 1) := by decide +kernel
theorem d10_51 : decode prog_55_method_3_code 51 = .ok (.iadd, 1) := by decide +kernel
theorem d10_52 : decode prog_55_method_3_code 52 = .ok (.aload_n 0, 1) := by decide +kernel
theorem d10_53 : decode prog_55_method_3_code 53 = .ok (.getfield 13, 3) := by decide +kernel
theorem d10_56 : decode prog_55_method_3_code 56 = .ok (.iload_n 3, 1) := by decide +kernel
theorem d10_57 : decode prog_55_method_3_code 57 = .ok (.aload_n 0, 1) := by decide +kernel
theorem d10_58 : decode prog_55_method_3_code 58 = .ok (.getfield 21, 3) := by decide +kernel
theorem d10_61 : decode prog_55_method_3_code 61 = .ok (.iload_n 3, 1) := by decide +kernel
theorem d10_62 : decode prog_55_method_3_code 62 = .ok (.isub, 1) := by decide +kernel
theorem d10_63 : decode prog_55_method_3_code 63 = .ok (.iconst 1, 1) := by decide +kernel
theorem d10_64 : decode prog_55_method_3_code 64 = .ok (.isub, 1) := by decide +kernel
theorem d10_65 : decode prog_55_method_3_code 65 = .ok (.invokestatic 34, 3) := by decide +kernel
theorem d10_68 : decode prog_55_method_3_code 68 = .ok (.aload_n 0, 1) := by decide +kernel
theorem d10_69 : decode prog_55_method_3_code 69 = .ok (.dup, 1) := by decide +kernel
theorem d10_70 : decode prog_55_method_3_code 70 = .ok (.getfield 21, 3) := by decide +kernel
theorem d10_73 : decode prog_55_method_3_code 73 = .ok (.iconst 1, 1) := by decide +kernel
theorem d10_74 : decode prog_55_method_3_code 74 = .ok (.isub, 1) := by decide +kernel
theorem d10_75 : decode prog_55_method_3_code 75 = .ok (.putfield 21, 3) := by decide +kernel
theorem d10_78 : decode prog_55_method_3_code 78 = .ok (.iconst 1, 1) := by decide +kernel
theorem d10_79 : decode prog_55_method_3_code 79 = .ok (.ireturn, 1) := by decide +kernel
theorem pnr1 : plainName "com/example/graph_of_conflicts/graphofconflicts/engine/OpenSnapshots" = true := by first | (simp [plainName, overriddenIn]; done) | decide +kernel
theorem pdr1_0 : parseMethodDescriptor "(J)I" = some ⟨[.long], some .int⟩ := by decide +kernel
theorem efr1 (m : MethodId) (x0 : Addr) (x1 : Int64) : entryFrame m #[(.ref x0), (.long x1)] 4 = mkF m 0 #[.val (.ref x0), .val (.long x1), .second, .unset] [] := by first | (simp [entryFrame, mkF, argsToLocals, Value.category]; done) | rfl
def Qr1 (Z : State) (a : Addr) (aS : Addr) (kS : ClassId) (s0_ : Int64) (s1_ : Int64) (s2_ : Int64) (s3_ : Int64) (s4_ : Int64) (s5_ : Int64) (s6_ : Int64) (s7_ : Int64) (aH : Addr) (kH : ClassId) (k0_ : Int32) (k1_ : Int32) (k2_ : Int32) (k3_ : Int32) (k4_ : Int32) (k5_ : Int32) (k6_ : Int32) (k7_ : Int32) (h0 : Heap) (n0 : Nat) (v : Option Value) (h : Heap) (L : List Loc) : Prop := v = some (.int (1 : Int32)) ∧ Fr n0 L ∧ Keep h0 h [a, aS, aH] ∧ Fld Z h a "com/example/graph_of_conflicts/graphofconflicts/engine/OpenSnapshots" "snapshots" "[J" (.ref aS) ∧ Fld Z h a "com/example/graph_of_conflicts/graphofconflicts/engine/OpenSnapshots" "holders" "[I" (.ref aH) ∧ Fld Z h a "com/example/graph_of_conflicts/graphofconflicts/engine/OpenSnapshots" "size" "I" (.int (0 : Int32)) ∧ Arv Z h aS kS .long (8 : Int32) [(.long s0_), (.long s1_), (.long s2_), (.long s3_), (.long s4_), (.long s5_), (.long s6_), (.long s7_)] (.long (0 : Int64)) ∧ Arv Z h aH kH .int (8 : Int32) [(.int (0 : Int32)), (.int k1_), (.int k2_), (.int k3_), (.int k4_), (.int k5_), (.int k6_), (.int k7_)] (.int (0 : Int32))
set_option maxRecDepth 65536 in
set_option maxHeartbeats 40000000 in
theorem rmr1 (l : Launch) (Z : State) (a0 : Array Value) (hw : ∀ d ∈ tables_1, d.before a0 Z = true) (ws : List Jvm.Cond) (a : Addr) (aS : Addr) (kS : ClassId) (s0_ : Int64) (s1_ : Int64) (s2_ : Int64) (s3_ : Int64) (s4_ : Int64) (s5_ : Int64) (s6_ : Int64) (s7_ : Int64) (aH : Addr) (kH : ClassId) (k0_ : Int32) (k1_ : Int32) (k2_ : Int32) (k3_ : Int32) (k4_ : Int32) (k5_ : Int32) (k6_ : Int32) (k7_ : Int32) (h0 : Heap) (n0 : Nat) (Z0 : n0 ≤ h0.size) (Fs : Fld Z h0 a "com/example/graph_of_conflicts/graphofconflicts/engine/OpenSnapshots" "snapshots" "[J" (.ref aS)) (Fh : Fld Z h0 a "com/example/graph_of_conflicts/graphofconflicts/engine/OpenSnapshots" "holders" "[I" (.ref aH)) (Fn : Fld Z h0 a "com/example/graph_of_conflicts/graphofconflicts/engine/OpenSnapshots" "size" "I" (.int (1 : Int32))) (Vs : Arv Z h0 aS kS .long (8 : Int32) [(.long s0_), (.long s1_), (.long s2_), (.long s3_), (.long s4_), (.long s5_), (.long s6_), (.long s7_)] (.long (0 : Int64))) (Vh : Arv Z h0 aH kH .int (8 : Int32) [(.int (1 : Int32)), (.int k1_), (.int k2_), (.int k3_), (.int k4_), (.int k5_), (.int k6_), (.int k7_)] (.int (0 : Int32))) (Ex : Exa Z h0 a "com/example/graph_of_conflicts/graphofconflicts/engine/OpenSnapshots") (ga : n0 ≤ a) (gS : n0 ≤ aS) (gH : n0 ≤ aH) (neS : a ≠ aS) (neH : a ≠ aH) (neSH : aS ≠ aH) :
    MetFree l (⟨"com/example/graph_of_conflicts/graphofconflicts/engine/OpenSnapshots", "remove", "(J)Z"⟩ : MethodName) (head1 (Jvm.Cond.code (⟨"com/example/graph_of_conflicts/graphofconflicts/engine/OpenSnapshots", "remove", "(J)Z"⟩ : MethodName) prog_55_method_3_code 4 (some .boolean) :: ws) ({ frames := 3, cells := 0, slots := 0, locals := 63 } : Room)) (fun aQ UQ => aQ = #[(.ref a), (.long s0_)] ∧ Z.Warmed39 UQ.vm ∧ UQ.heap = h0) (fun _ _ _ _ _ => True) (fun _ U o U' => ∃ v L, o = .returned v ∧ Qr1 Z a aS kS s0_ s1_ s2_ s3_ s4_ s5_ s6_ s7_ aH kH k0_ k1_ k2_ k3_ k4_ k5_ k6_ k7_ h0 n0 v U'.heap L ∧ FrameEnd U o U' L ({ frames := 3, cells := 0, slots := 0, locals := 63 } : Room).cells ({ frames := 3, cells := 0, slots := 0, locals := 63 } : Room).slots) := by
  refine MetFree.of_bodySF (plainFor_of_name pnr1) hisR ?_
  intro p e s m args below meth c s₁ Bd hml0 hP hK
  obtain ⟨rfl, hZ, hh⟩ := hP
  have hx := Bd.exec
  have hby := Bd.bytes
  have hml : c.maxLocals = 4 := hml0
  have hown : s.vm.findClass "com/example/graph_of_conflicts/graphofconflicts/engine/OpenSnapshots" = some m.cls := findClass_of_methodNamed Bd.named
  have hnm := (name_of_methodNamed Bd.named Bd.method).1
  have X0 : Stand p l e ({ frames := 3, cells := 0, slots := 0, locals := 63 } : Room) s m #[(.ref a), (.long s0_)] below meth c s₁ [] 0 0 := Stand.of_body Bd
  have e0 : s₁.heap = h0 := by rw [← hh, Bd.state]; rfl
  have N0 := Fr.nil n0
  show OGo p e below (OPost s (Qr1 Z a aS kS s0_ s1_ s2_ s3_ s4_ s5_ s6_ s7_ aH kH k0_ k1_ k2_ k3_ k4_ k5_ k6_ k7_ h0 n0) ({ frames := 3, cells := 0, slots := 0, locals := 63 } : Room).cells ({ frames := 3, cells := 0, slots := 0, locals := 63 } : Room).slots) (s₁.setTop (entryFrame m #[(.ref a), (.long s0_)] 4))
  refine OGo.step (fun uK kK => castTop (efr1 m a s0_) kK) ?_
  show OGo p e below _ (s₁.setTop (mkF m 0 #[.val (.ref a), .val (.long s0_), .second, .unset] []))
  refine OGo.step (fun uK kK => XS.aloadN X0.here hx rfl (hb hby d10_0) rfl rfl kK) ?_
  show OGo p e below _ (s₁.setTop (mkF m 1 #[.val (.ref a), .val (.long s0_), .second, .unset] [(.ref a)]))
  refine OGo.step (fun uK kK => XS.lloadN X0.here hx rfl (hb hby d10_1) rfl kK) ?_
  show OGo p e below _ (s₁.setTop (mkF m 2 #[.val (.ref a), .val (.long s0_), .second, .unset] [(.long s0_), (.ref a)]))
  obtain ⟨cq1, qc1, qd1⟩ := Ex.cell
  obtain ⟨_, _, ⟨T1, Lq1, kq_1, nq_1⟩, -, X1, ⟨Lc1, hQ1, lq1, yq1, zq1⟩, st1⟩ := X0.privateBack hx (y := (⟨"com/example/graph_of_conflicts/graphofconflicts/engine/OpenSnapshots", "indexOf", "(J)I"⟩ : MethodName)) hown (mvT hZ (hw _ (List.mem_of_getElem? (i := 25) rfl))) (mvT hZ (hw _ (List.mem_of_getElem? (i := 26) rfl))) (own_selP (mvT hZ (hw _ (List.mem_of_getElem? (i := 6) rfl))) (mvP hZ (hw _ (List.mem_of_getElem? (i := 27) rfl))) (mvT hZ (hw _ (List.mem_of_getElem? (i := 26) rfl))) (by decide)) (Cond.privateMethod_at (mvP hZ (hw _ (List.mem_of_getElem? (i := 27) rfl)) (args := #[]))) (mvT hZ (hw _ (List.mem_of_getElem? (i := 28) rfl))) (by decide) (backOf (W := 0) (rmx_h0 l Z a0 hw [] a aS kS s0_ s1_ s2_ s3_ s4_ s5_ s6_ s7_ h0 n0 Z0 Fs Fn Vs) hZ (hw _ (List.mem_of_getElem? (i := 28) rfl)) (hw _ (List.mem_of_getElem? (i := 7) rfl)) (by decide) (by decide)) (g := (mkF m 2 #[.val (.ref a), .val (.long s0_), .second, .unset] [(.long s0_), (.ref a)])) rfl (by rw [hml]; rfl) (Steps.refl _) (a := a) (by rw [e0]; exact qc1) qd1 (argsL := [(.long s0_)]) (rest := []) (lenOf pdr1_0 rfl) rfl (by show 2 * 0 + _ ≤ _; exact Nat.le_of_eq rfl) (hb hby d10_2) (fun _ _ => ⟨rfl, e0, (by decide : 0 + 0 ≤ _), (by decide : 0 + 0 ≤ _)⟩)
  dsimp only [Pt.U, Pt.locs, Pt.cells, Pt.slots] at X1 lq1 yq1 zq1 st1 hQ1
  subst lq1 yq1 zq1
  obtain ⟨rfl, Nq1, e1⟩ := hQ1
  have N1 := Fr.app N0 Nq1
  refine OGo.steps st1 ?_
  show OGo p e below _ (T1.setTop (mkF m 5 #[.val (.ref a), .val (.long s0_), .second, .unset] [(.int (0 : Int32))]))
  refine OGo.step (fun uK kK => XS.istoreN X1.here hx rfl (hb hby d10_5) rfl (l' := #[.val (.ref a), .val (.long s0_), .second, .val (.int (0 : Int32))]) rfl kK) ?_
  show OGo p e below _ (T1.setTop (mkF m 6 #[.val (.ref a), .val (.long s0_), .second, .val (.int (0 : Int32))] []))
  refine OGo.step (fun uK kK => XS.aloadN X1.here hx rfl (hb hby d10_6) rfl rfl kK) ?_
  show OGo p e below _ (T1.setTop (mkF m 7 #[.val (.ref a), .val (.long s0_), .second, .val (.int (0 : Int32))] [(.ref a)]))
  obtain ⟨T2, X2, e2, st2⟩ := getF X1 hx hZ hown (host := "") (Or.inl (hw _ (List.mem_of_getElem? (i := 18) rfl))) Via.refl e1 Fh (g := (mkF m 7 #[.val (.ref a), .val (.long s0_), .second, .val (.int (0 : Int32))] [(.ref a)])) rfl rfl (hb hby d10_7)
  refine OGo.step (fun uK kK => st2 uK kK) ?_
  show OGo p e below _ (T2.setTop (mkF m 10 #[.val (.ref a), .val (.long s0_), .second, .val (.int (0 : Int32))] [(.ref aH)]))
  refine OGo.step (fun uK kK => XS.iloadN X2.here hx rfl (hb hby d10_10) rfl kK) ?_
  show OGo p e below _ (T2.setTop (mkF m 11 #[.val (.ref a), .val (.long s0_), .second, .val (.int (0 : Int32))] [(.int (0 : Int32)), (.ref aH)]))
  refine OGo.step (t' := T2.setTop (mkF m 12 #[.val (.ref a), .val (.long s0_), .second, .val (.int (0 : Int32))] [(.int (0 : Int32)), (.ref aH), (.int (0 : Int32)), (.ref aH)])) (fun uK kK => ?_) ?_
  · show Steps p.tables e below (T2.setTop (mkF m 11 #[.val (.ref a), .val (.long s0_), .second, .val (.int (0 : Int32))] [(.int (0 : Int32)), (.ref aH)])) _
    jvm_step X2.here [X2.here.top, hx, (hb hby d10_11), Value.category]
    exact kK
  show OGo p e below _ (T2.setTop (mkF m 12 #[.val (.ref a), .val (.long s0_), .second, .val (.int (0 : Int32))] [(.int (0 : Int32)), (.ref aH), (.int (0 : Int32)), (.ref aH)]))
  obtain ⟨cl3, Ar3, q3, S3, M3, H3, G3⟩ := id Vh
  have hin3 : ¬ ((0 : Int32) < 0 ∨ cl3.slots.size ≤ ((0 : Int32)).toNatClampNeg) := inb_of S3 ⟨by decide, by decide⟩
  have hat3 : cl3.slots[((0 : Int32)).toNatClampNeg]? = some (.int (1 : Int32)) := H3.at hin3 rfl
  refine OGo.step (fun uK kK => X2.iaload hx (j := (0 : Int32)) (v := (.int (1 : Int32))) (by rw [e2]; exact Ar3.1) (State.isArrayOf_alike hZ.alike Ar3.2.1) Ar3.2.2 hin3 hat3 (g := (mkF m 12 #[.val (.ref a), .val (.long s0_), .second, .val (.int (0 : Int32))] [(.int (0 : Int32)), (.ref aH), (.int (0 : Int32)), (.ref aH)])) rfl rfl (hb hby d10_12) uK kK) ?_
  show OGo p e below _ (T2.setTop (mkF m 13 #[.val (.ref a), .val (.long s0_), .second, .val (.int (0 : Int32))] [(.int (1 : Int32)), (.int (0 : Int32)), (.ref aH)]))
  refine OGo.step (fun uK kK => XS.iconst X2.here hx rfl (hb hby d10_13) kK) ?_
  show OGo p e below _ (T2.setTop (mkF m 14 #[.val (.ref a), .val (.long s0_), .second, .val (.int (0 : Int32))] [(.int (1 : Int32)), (.int (1 : Int32)), (.int (0 : Int32)), (.ref aH)]))
  refine OGo.step (fun uK kK => XS.isub X2.here hx rfl (hb hby d10_14) rfl kK) ?_
  show OGo p e below _ (T2.setTop (mkF m 15 #[.val (.ref a), .val (.long s0_), .second, .val (.int (0 : Int32))] [(.int ((1 : Int32) - (1 : Int32))), (.int (0 : Int32)), (.ref aH)]))
  have ez4 : ((1 : Int32) - (1 : Int32)) = (0 : Int32) := by decide
  rw [ez4]
  show OGo p e below _ (T2.setTop (mkF m 15 #[.val (.ref a), .val (.long s0_), .second, .val (.int (0 : Int32))] [(.int (0 : Int32)), (.int (0 : Int32)), (.ref aH)]))
  refine OGo.step (t' := T2.setTop (mkF m 16 #[.val (.ref a), .val (.long s0_), .second, .val (.int (0 : Int32))] [(.int (0 : Int32)), (.int (0 : Int32)), (.ref aH), (.int (0 : Int32))])) (fun uK kK => ?_) ?_
  · show Steps p.tables e below (T2.setTop (mkF m 15 #[.val (.ref a), .val (.long s0_), .second, .val (.int (0 : Int32))] [(.int (0 : Int32)), (.int (0 : Int32)), (.ref aH)])) _
    jvm_step X2.here [X2.here.top, hx, (hb hby d10_15), Value.category]
    exact kK
  show OGo p e below _ (T2.setTop (mkF m 16 #[.val (.ref a), .val (.long s0_), .second, .val (.int (0 : Int32))] [(.int (0 : Int32)), (.int (0 : Int32)), (.ref aH), (.int (0 : Int32))]))
  obtain ⟨cl5, Ar5, q5, S5, M5, H5, G5⟩ := id Vh
  have hin5 : ¬ ((0 : Int32) < 0 ∨ cl5.slots.size ≤ ((0 : Int32)).toNatClampNeg) := inb_of S5 ⟨by decide, by decide⟩
  obtain ⟨T5, h5, X5, e5, W5, st5⟩ := stI X2 hx hZ e2 Ar5 (j := (0 : Int32)) hin5 (g := (mkF m 16 #[.val (.ref a), .val (.long s0_), .second, .val (.int (0 : Int32))] [(.int (0 : Int32)), (.int (0 : Int32)), (.ref aH), (.int (0 : Int32))])) rfl rfl (hb hby d10_16)
  have V_aH_5 : Arv Z h5 aH kH .int (8 : Int32) [(.int (0 : Int32)), (.int k1_), (.int k2_), (.int k3_), (.int k4_), (.int k5_), (.int k6_), (.int k7_)] (.int (0 : Int32)) := Arv.set Ar5 q5 S5 M5 H5 G5 rfl W5 0 rfl (Nat.le_of_ble_eq_true rfl)
  have Fs_6 := (Fs.other W5 (Or.inl neH))
  have Fh_7 := (Fh.other W5 (Or.inl neH))
  have Fn_8 := (Fn.other W5 (Or.inl neH))
  have Vs_9 := (Vs.other W5 neSH)
  have Ex_11 := (Ex.wr W5)
  have ZS5 : n0 ≤ h5.size := Nat.le_trans Z0 (Keep.of_wr W5).1
  have KC5 : Keep h0 h5 [a, aS, aH] := (Keep.refl h0 [a, aS, aH]).wr W5 (Or.inl (List.mem_of_getElem? (i := 2) rfl))
  have N5 := Fr.snoc X5 N1 gH
  refine OGo.step (fun uK kK => st5 uK kK) ?_
  show OGo p e below _ (T5.setTop (mkF m 17 #[.val (.ref a), .val (.long s0_), .second, .val (.int (0 : Int32))] [(.int (0 : Int32))]))
  have hc17 : ¬ ((0 : Int32) < (0 : Int32)) := by decide
  refine OGo.step (fun uK kK => XS.ifYes X5.here hx rfl (pc0 := 17) (pc' := 22) rfl (hb hby d10_17) rfl ((if0 _ _).trans (flt hc17).2.2.2) (by decide) (by decide) kK) ?_
  show OGo p e below _ (T5.setTop (mkF m 22 #[.val (.ref a), .val (.long s0_), .second, .val (.int (0 : Int32))] []))
  refine OGo.step (fun uK kK => XS.aloadN X5.here hx rfl (hb hby d10_22) rfl rfl kK) ?_
  show OGo p e below _ (T5.setTop (mkF m 23 #[.val (.ref a), .val (.long s0_), .second, .val (.int (0 : Int32))] [(.ref a)]))
  obtain ⟨T12, X12, e12, st12⟩ := getF X5 hx hZ hown (host := "") (Or.inl (hw _ (List.mem_of_getElem? (i := 15) rfl))) Via.refl e5 Fs_6 (g := (mkF m 23 #[.val (.ref a), .val (.long s0_), .second, .val (.int (0 : Int32))] [(.ref a)])) rfl rfl (hb hby d10_23)
  refine OGo.step (fun uK kK => st12 uK kK) ?_
  show OGo p e below _ (T12.setTop (mkF m 26 #[.val (.ref a), .val (.long s0_), .second, .val (.int (0 : Int32))] [(.ref aS)]))
  refine OGo.step (fun uK kK => XS.iloadN X12.here hx rfl (hb hby d10_26) rfl kK) ?_
  show OGo p e below _ (T12.setTop (mkF m 27 #[.val (.ref a), .val (.long s0_), .second, .val (.int (0 : Int32))] [(.int (0 : Int32)), (.ref aS)]))
  refine OGo.step (fun uK kK => XS.iconst X12.here hx rfl (hb hby d10_27) kK) ?_
  show OGo p e below _ (T12.setTop (mkF m 28 #[.val (.ref a), .val (.long s0_), .second, .val (.int (0 : Int32))] [(.int (1 : Int32)), (.int (0 : Int32)), (.ref aS)]))
  refine OGo.step (fun uK kK => XS.iadd X12.here hx rfl (hb hby d10_28) rfl kK) ?_
  show OGo p e below _ (T12.setTop (mkF m 29 #[.val (.ref a), .val (.long s0_), .second, .val (.int (0 : Int32))] [(.int ((0 : Int32) + (1 : Int32))), (.ref aS)]))
  have ez13 : ((0 : Int32) + (1 : Int32)) = (1 : Int32) := by decide
  rw [ez13]
  show OGo p e below _ (T12.setTop (mkF m 29 #[.val (.ref a), .val (.long s0_), .second, .val (.int (0 : Int32))] [(.int (1 : Int32)), (.ref aS)]))
  refine OGo.step (fun uK kK => XS.aloadN X12.here hx rfl (hb hby d10_29) rfl rfl kK) ?_
  show OGo p e below _ (T12.setTop (mkF m 30 #[.val (.ref a), .val (.long s0_), .second, .val (.int (0 : Int32))] [(.ref a), (.int (1 : Int32)), (.ref aS)]))
  obtain ⟨T14, X14, e14, st14⟩ := getF X12 hx hZ hown (host := "") (Or.inl (hw _ (List.mem_of_getElem? (i := 15) rfl))) Via.refl e12 Fs_6 (g := (mkF m 30 #[.val (.ref a), .val (.long s0_), .second, .val (.int (0 : Int32))] [(.ref a), (.int (1 : Int32)), (.ref aS)])) rfl rfl (hb hby d10_30)
  refine OGo.step (fun uK kK => st14 uK kK) ?_
  show OGo p e below _ (T14.setTop (mkF m 33 #[.val (.ref a), .val (.long s0_), .second, .val (.int (0 : Int32))] [(.ref aS), (.int (1 : Int32)), (.ref aS)]))
  refine OGo.step (fun uK kK => XS.iloadN X14.here hx rfl (hb hby d10_33) rfl kK) ?_
  show OGo p e below _ (T14.setTop (mkF m 34 #[.val (.ref a), .val (.long s0_), .second, .val (.int (0 : Int32))] [(.int (0 : Int32)), (.ref aS), (.int (1 : Int32)), (.ref aS)]))
  refine OGo.step (fun uK kK => XS.aloadN X14.here hx rfl (hb hby d10_34) rfl rfl kK) ?_
  show OGo p e below _ (T14.setTop (mkF m 35 #[.val (.ref a), .val (.long s0_), .second, .val (.int (0 : Int32))] [(.ref a), (.int (0 : Int32)), (.ref aS), (.int (1 : Int32)), (.ref aS)]))
  obtain ⟨T15, X15, e15, st15⟩ := getF X14 hx hZ hown (host := "") (Or.inl (hw _ (List.mem_of_getElem? (i := 29) rfl))) Via.refl e14 Fn_8 (g := (mkF m 35 #[.val (.ref a), .val (.long s0_), .second, .val (.int (0 : Int32))] [(.ref a), (.int (0 : Int32)), (.ref aS), (.int (1 : Int32)), (.ref aS)])) rfl rfl (hb hby d10_35)
  refine OGo.step (fun uK kK => st15 uK kK) ?_
  show OGo p e below _ (T15.setTop (mkF m 38 #[.val (.ref a), .val (.long s0_), .second, .val (.int (0 : Int32))] [(.int (1 : Int32)), (.int (0 : Int32)), (.ref aS), (.int (1 : Int32)), (.ref aS)]))
  refine OGo.step (fun uK kK => XS.iloadN X15.here hx rfl (hb hby d10_38) rfl kK) ?_
  show OGo p e below _ (T15.setTop (mkF m 39 #[.val (.ref a), .val (.long s0_), .second, .val (.int (0 : Int32))] [(.int (0 : Int32)), (.int (1 : Int32)), (.int (0 : Int32)), (.ref aS), (.int (1 : Int32)), (.ref aS)]))
  refine OGo.step (fun uK kK => XS.isub X15.here hx rfl (hb hby d10_39) rfl kK) ?_
  show OGo p e below _ (T15.setTop (mkF m 40 #[.val (.ref a), .val (.long s0_), .second, .val (.int (0 : Int32))] [(.int ((1 : Int32) - (0 : Int32))), (.int (0 : Int32)), (.ref aS), (.int (1 : Int32)), (.ref aS)]))
  have ez16 : ((1 : Int32) - (0 : Int32)) = (1 : Int32) := by decide
  rw [ez16]
  show OGo p e below _ (T15.setTop (mkF m 40 #[.val (.ref a), .val (.long s0_), .second, .val (.int (0 : Int32))] [(.int (1 : Int32)), (.int (0 : Int32)), (.ref aS), (.int (1 : Int32)), (.ref aS)]))
  refine OGo.step (fun uK kK => XS.iconst X15.here hx rfl (hb hby d10_40) kK) ?_
  show OGo p e below _ (T15.setTop (mkF m 41 #[.val (.ref a), .val (.long s0_), .second, .val (.int (0 : Int32))] [(.int (1 : Int32)), (.int (1 : Int32)), (.int (0 : Int32)), (.ref aS), (.int (1 : Int32)), (.ref aS)]))
  refine OGo.step (fun uK kK => XS.isub X15.here hx rfl (hb hby d10_41) rfl kK) ?_
  show OGo p e below _ (T15.setTop (mkF m 42 #[.val (.ref a), .val (.long s0_), .second, .val (.int (0 : Int32))] [(.int ((1 : Int32) - (1 : Int32))), (.int (0 : Int32)), (.ref aS), (.int (1 : Int32)), (.ref aS)]))
  have ez17 : ((1 : Int32) - (1 : Int32)) = (0 : Int32) := by decide
  rw [ez17]
  show OGo p e below _ (T15.setTop (mkF m 42 #[.val (.ref a), .val (.long s0_), .second, .val (.int (0 : Int32))] [(.int (0 : Int32)), (.int (0 : Int32)), (.ref aS), (.int (1 : Int32)), (.ref aS)]))
  obtain ⟨T18, h18, L18, X18, e18, N18, K18, V18, st18⟩ := cpA X15 hx hZ hown (hw _ (List.mem_of_getElem? (i := 41) rfl)) (hw _ (List.mem_of_getElem? (i := 44) rfl)) (hw _ (List.mem_of_getElem? (i := 42) rfl)) (hw _ (List.mem_of_getElem? (i := 43) rfl)) e15 (sp := (1 : Int32)) (dp := (0 : Int32)) (nn := (0 : Int32)) (us := []) Vs_9 Vs_9 (Or.inl ⟨rfl, rfl⟩) (by decide) (by decide) (by decide) (by decide) (by decide) rfl (Nat.le_of_ble_eq_true rfl) N5 gS (g := (mkF m 42 #[.val (.ref a), .val (.long s0_), .second, .val (.int (0 : Int32))] [(.int (0 : Int32)), (.int (0 : Int32)), (.ref aS), (.int (1 : Int32)), (.ref aS)])) rfl (by rw [hml]; rfl) rfl (hb hby d10_42) (by decide) (W := 0) (by show 2 * 0 + _ ≤ _; exact Nat.le_of_eq rfl) (by decide)
  have V_aS_18 : Arv Z h18 aS kS .long (8 : Int32) [(.long s0_), (.long s1_), (.long s2_), (.long s3_), (.long s4_), (.long s5_), (.long s6_), (.long s7_)] (.long (0 : Int64)) := V18
  have Fs_19 := (Fs_6.keep K18 (ninS neS nin0))
  have Fh_20 := (Fh_7.keep K18 (ninS neS nin0))
  have Fn_21 := (Fn_8.keep K18 (ninS neS nin0))
  have Ex_23 := (Ex_11.keep K18)
  have V_aH_24 := (V_aH_5.keep K18 (ninS (Ne.symm neSH) nin0))
  have ZS18 : n0 ≤ h18.size := Nat.le_trans ZS5 K18.1
  have KC18 : Keep h0 h18 [a, aS, aH] := KC5.trans K18 (allS (Or.inl (List.mem_of_getElem? (i := 1) rfl)) all0)
  refine OGo.step (fun uK kK => st18 uK kK) ?_
  show OGo p e below _ (T18.setTop (mkF m 45 #[.val (.ref a), .val (.long s0_), .second, .val (.int (0 : Int32))] []))
  refine OGo.step (fun uK kK => XS.aloadN X18.here hx rfl (hb hby d10_45) rfl rfl kK) ?_
  show OGo p e below _ (T18.setTop (mkF m 46 #[.val (.ref a), .val (.long s0_), .second, .val (.int (0 : Int32))] [(.ref a)]))
  obtain ⟨T25, X25, e25, st25⟩ := getF X18 hx hZ hown (host := "") (Or.inl (hw _ (List.mem_of_getElem? (i := 18) rfl))) Via.refl e18 Fh_20 (g := (mkF m 46 #[.val (.ref a), .val (.long s0_), .second, .val (.int (0 : Int32))] [(.ref a)])) rfl rfl (hb hby d10_46)
  refine OGo.step (fun uK kK => st25 uK kK) ?_
  show OGo p e below _ (T25.setTop (mkF m 49 #[.val (.ref a), .val (.long s0_), .second, .val (.int (0 : Int32))] [(.ref aH)]))
  refine OGo.step (fun uK kK => XS.iloadN X25.here hx rfl (hb hby d10_49) rfl kK) ?_
  show OGo p e below _ (T25.setTop (mkF m 50 #[.val (.ref a), .val (.long s0_), .second, .val (.int (0 : Int32))] [(.int (0 : Int32)), (.ref aH)]))
  refine OGo.step (fun uK kK => XS.iconst X25.here hx rfl (hb hby d10_50) kK) ?_
  show OGo p e below _ (T25.setTop (mkF m 51 #[.val (.ref a), .val (.long s0_), .second, .val (.int (0 : Int32))] [(.int (1 : Int32)), (.int (0 : Int32)), (.ref aH)]))
  refine OGo.step (fun uK kK => XS.iadd X25.here hx rfl (hb hby d10_51) rfl kK) ?_
  show OGo p e below _ (T25.setTop (mkF m 52 #[.val (.ref a), .val (.long s0_), .second, .val (.int (0 : Int32))] [(.int ((0 : Int32) + (1 : Int32))), (.ref aH)]))
  have ez26 : ((0 : Int32) + (1 : Int32)) = (1 : Int32) := by decide
  rw [ez26]
  show OGo p e below _ (T25.setTop (mkF m 52 #[.val (.ref a), .val (.long s0_), .second, .val (.int (0 : Int32))] [(.int (1 : Int32)), (.ref aH)]))
  refine OGo.step (fun uK kK => XS.aloadN X25.here hx rfl (hb hby d10_52) rfl rfl kK) ?_
  show OGo p e below _ (T25.setTop (mkF m 53 #[.val (.ref a), .val (.long s0_), .second, .val (.int (0 : Int32))] [(.ref a), (.int (1 : Int32)), (.ref aH)]))
  obtain ⟨T27, X27, e27, st27⟩ := getF X25 hx hZ hown (host := "") (Or.inl (hw _ (List.mem_of_getElem? (i := 18) rfl))) Via.refl e25 Fh_20 (g := (mkF m 53 #[.val (.ref a), .val (.long s0_), .second, .val (.int (0 : Int32))] [(.ref a), (.int (1 : Int32)), (.ref aH)])) rfl rfl (hb hby d10_53)
  refine OGo.step (fun uK kK => st27 uK kK) ?_
  show OGo p e below _ (T27.setTop (mkF m 56 #[.val (.ref a), .val (.long s0_), .second, .val (.int (0 : Int32))] [(.ref aH), (.int (1 : Int32)), (.ref aH)]))
  refine OGo.step (fun uK kK => XS.iloadN X27.here hx rfl (hb hby d10_56) rfl kK) ?_
  show OGo p e below _ (T27.setTop (mkF m 57 #[.val (.ref a), .val (.long s0_), .second, .val (.int (0 : Int32))] [(.int (0 : Int32)), (.ref aH), (.int (1 : Int32)), (.ref aH)]))
  refine OGo.step (fun uK kK => XS.aloadN X27.here hx rfl (hb hby d10_57) rfl rfl kK) ?_
  show OGo p e below _ (T27.setTop (mkF m 58 #[.val (.ref a), .val (.long s0_), .second, .val (.int (0 : Int32))] [(.ref a), (.int (0 : Int32)), (.ref aH), (.int (1 : Int32)), (.ref aH)]))
  obtain ⟨T28, X28, e28, st28⟩ := getF X27 hx hZ hown (host := "") (Or.inl (hw _ (List.mem_of_getElem? (i := 29) rfl))) Via.refl e27 Fn_21 (g := (mkF m 58 #[.val (.ref a), .val (.long s0_), .second, .val (.int (0 : Int32))] [(.ref a), (.int (0 : Int32)), (.ref aH), (.int (1 : Int32)), (.ref aH)])) rfl rfl (hb hby d10_58)
  refine OGo.step (fun uK kK => st28 uK kK) ?_
  show OGo p e below _ (T28.setTop (mkF m 61 #[.val (.ref a), .val (.long s0_), .second, .val (.int (0 : Int32))] [(.int (1 : Int32)), (.int (0 : Int32)), (.ref aH), (.int (1 : Int32)), (.ref aH)]))
  refine OGo.step (fun uK kK => XS.iloadN X28.here hx rfl (hb hby d10_61) rfl kK) ?_
  show OGo p e below _ (T28.setTop (mkF m 62 #[.val (.ref a), .val (.long s0_), .second, .val (.int (0 : Int32))] [(.int (0 : Int32)), (.int (1 : Int32)), (.int (0 : Int32)), (.ref aH), (.int (1 : Int32)), (.ref aH)]))
  refine OGo.step (fun uK kK => XS.isub X28.here hx rfl (hb hby d10_62) rfl kK) ?_
  show OGo p e below _ (T28.setTop (mkF m 63 #[.val (.ref a), .val (.long s0_), .second, .val (.int (0 : Int32))] [(.int ((1 : Int32) - (0 : Int32))), (.int (0 : Int32)), (.ref aH), (.int (1 : Int32)), (.ref aH)]))
  have ez29 : ((1 : Int32) - (0 : Int32)) = (1 : Int32) := by decide
  rw [ez29]
  show OGo p e below _ (T28.setTop (mkF m 63 #[.val (.ref a), .val (.long s0_), .second, .val (.int (0 : Int32))] [(.int (1 : Int32)), (.int (0 : Int32)), (.ref aH), (.int (1 : Int32)), (.ref aH)]))
  refine OGo.step (fun uK kK => XS.iconst X28.here hx rfl (hb hby d10_63) kK) ?_
  show OGo p e below _ (T28.setTop (mkF m 64 #[.val (.ref a), .val (.long s0_), .second, .val (.int (0 : Int32))] [(.int (1 : Int32)), (.int (1 : Int32)), (.int (0 : Int32)), (.ref aH), (.int (1 : Int32)), (.ref aH)]))
  refine OGo.step (fun uK kK => XS.isub X28.here hx rfl (hb hby d10_64) rfl kK) ?_
  show OGo p e below _ (T28.setTop (mkF m 65 #[.val (.ref a), .val (.long s0_), .second, .val (.int (0 : Int32))] [(.int ((1 : Int32) - (1 : Int32))), (.int (0 : Int32)), (.ref aH), (.int (1 : Int32)), (.ref aH)]))
  have ez30 : ((1 : Int32) - (1 : Int32)) = (0 : Int32) := by decide
  rw [ez30]
  show OGo p e below _ (T28.setTop (mkF m 65 #[.val (.ref a), .val (.long s0_), .second, .val (.int (0 : Int32))] [(.int (0 : Int32)), (.int (0 : Int32)), (.ref aH), (.int (1 : Int32)), (.ref aH)]))
  obtain ⟨T31, h31, L31, X31, e31, N31, K31, V31, st31⟩ := cpA X28 hx hZ hown (hw _ (List.mem_of_getElem? (i := 41) rfl)) (hw _ (List.mem_of_getElem? (i := 44) rfl)) (hw _ (List.mem_of_getElem? (i := 42) rfl)) (hw _ (List.mem_of_getElem? (i := 43) rfl)) e28 (sp := (1 : Int32)) (dp := (0 : Int32)) (nn := (0 : Int32)) (us := []) V_aH_24 V_aH_24 (Or.inl ⟨rfl, rfl⟩) (by decide) (by decide) (by decide) (by decide) (by decide) rfl (Nat.le_of_ble_eq_true rfl) N18 gH (g := (mkF m 65 #[.val (.ref a), .val (.long s0_), .second, .val (.int (0 : Int32))] [(.int (0 : Int32)), (.int (0 : Int32)), (.ref aH), (.int (1 : Int32)), (.ref aH)])) rfl (by rw [hml]; rfl) rfl (hb hby d10_65) (by decide) (W := 0) (by show 2 * 0 + _ ≤ _; exact Nat.le_of_eq rfl) (by decide)
  have V_aH_31 : Arv Z h31 aH kH .int (8 : Int32) [(.int (0 : Int32)), (.int k1_), (.int k2_), (.int k3_), (.int k4_), (.int k5_), (.int k6_), (.int k7_)] (.int (0 : Int32)) := V31
  have Fs_32 := (Fs_19.keep K31 (ninS neH nin0))
  have Fh_33 := (Fh_20.keep K31 (ninS neH nin0))
  have Fn_34 := (Fn_21.keep K31 (ninS neH nin0))
  have Ex_35 := (Ex_23.keep K31)
  have V_aS_37 := (V_aS_18.keep K31 (ninS neSH nin0))
  have ZS31 : n0 ≤ h31.size := Nat.le_trans ZS18 K31.1
  have KC31 : Keep h0 h31 [a, aS, aH] := KC18.trans K31 (allS (Or.inl (List.mem_of_getElem? (i := 2) rfl)) all0)
  refine OGo.step (fun uK kK => st31 uK kK) ?_
  show OGo p e below _ (T31.setTop (mkF m 68 #[.val (.ref a), .val (.long s0_), .second, .val (.int (0 : Int32))] []))
  refine OGo.step (fun uK kK => XS.aloadN X31.here hx rfl (hb hby d10_68) rfl rfl kK) ?_
  show OGo p e below _ (T31.setTop (mkF m 69 #[.val (.ref a), .val (.long s0_), .second, .val (.int (0 : Int32))] [(.ref a)]))
  refine OGo.step (fun uK kK => XS.dup X31.here hx rfl (hb hby d10_69) rfl rfl kK) ?_
  show OGo p e below _ (T31.setTop (mkF m 70 #[.val (.ref a), .val (.long s0_), .second, .val (.int (0 : Int32))] [(.ref a), (.ref a)]))
  obtain ⟨T38, X38, e38, st38⟩ := getF X31 hx hZ hown (host := "") (Or.inl (hw _ (List.mem_of_getElem? (i := 29) rfl))) Via.refl e31 Fn_34 (g := (mkF m 70 #[.val (.ref a), .val (.long s0_), .second, .val (.int (0 : Int32))] [(.ref a), (.ref a)])) rfl rfl (hb hby d10_70)
  refine OGo.step (fun uK kK => st38 uK kK) ?_
  show OGo p e below _ (T38.setTop (mkF m 73 #[.val (.ref a), .val (.long s0_), .second, .val (.int (0 : Int32))] [(.int (1 : Int32)), (.ref a)]))
  refine OGo.step (fun uK kK => XS.iconst X38.here hx rfl (hb hby d10_73) kK) ?_
  show OGo p e below _ (T38.setTop (mkF m 74 #[.val (.ref a), .val (.long s0_), .second, .val (.int (0 : Int32))] [(.int (1 : Int32)), (.int (1 : Int32)), (.ref a)]))
  refine OGo.step (fun uK kK => XS.isub X38.here hx rfl (hb hby d10_74) rfl kK) ?_
  show OGo p e below _ (T38.setTop (mkF m 75 #[.val (.ref a), .val (.long s0_), .second, .val (.int (0 : Int32))] [(.int ((1 : Int32) - (1 : Int32))), (.ref a)]))
  have ez39 : ((1 : Int32) - (1 : Int32)) = (0 : Int32) := by decide
  rw [ez39]
  show OGo p e below _ (T38.setTop (mkF m 75 #[.val (.ref a), .val (.long s0_), .second, .val (.int (0 : Int32))] [(.int (0 : Int32)), (.ref a)]))
  obtain ⟨T40, h40, X40, e40, W40, st40⟩ := putF X38 hx hZ hown (host := "") (Or.inl (hw _ (List.mem_of_getElem? (i := 29) rfl))) Via.refl e38 Fn_34 Ex_35 (Or.inl (hw _ (List.mem_of_getElem? (i := 30) rfl))) (hw _ (List.mem_of_getElem? (i := 6) rfl)) (ty := .int) (by decide) rfl rfl (g := (mkF m 75 #[.val (.ref a), .val (.long s0_), .second, .val (.int (0 : Int32))] [(.int (0 : Int32)), (.ref a)])) rfl rfl (hb hby d10_75)
  have Fw40 := Fn_34.same W40
  have Fs_41 := (Fs_32.other W40 (Or.inr (slot_ne (Or.inl (hw _ (List.mem_of_getElem? (i := 16) rfl))) (Or.inl (hw _ (List.mem_of_getElem? (i := 30) rfl))) (by decide) (t := (.array .long)) (t' := .int) (by decide) (by decide))))
  have Fh_42 := (Fh_33.other W40 (Or.inr (slot_ne (Or.inl (hw _ (List.mem_of_getElem? (i := 19) rfl))) (Or.inl (hw _ (List.mem_of_getElem? (i := 30) rfl))) (by decide) (t := (.array .int)) (t' := .int) (by decide) (by decide))))
  have Ex_44 := (Ex_35.wr W40)
  have V_aS_45 := (V_aS_37.other W40 (Ne.symm neS))
  have V_aH_46 := (V_aH_31.other W40 (Ne.symm neH))
  have ZS40 : n0 ≤ h40.size := Nat.le_trans ZS31 (Keep.of_wr W40).1
  have KC40 : Keep h0 h40 [a, aS, aH] := KC31.wr W40 (Or.inl (List.mem_of_getElem? (i := 0) rfl))
  have N40 := Fr.snoc X40 N31 ga
  refine OGo.step (fun uK kK => st40 uK kK) ?_
  show OGo p e below _ (T40.setTop (mkF m 78 #[.val (.ref a), .val (.long s0_), .second, .val (.int (0 : Int32))] []))
  refine OGo.step (fun uK kK => XS.iconst X40.here hx rfl (hb hby d10_78) kK) ?_
  show OGo p e below _ (T40.setTop (mkF m 79 #[.val (.ref a), .val (.long s0_), .second, .val (.int (0 : Int32))] [(.int (1 : Int32))]))
  exact OGo.retN X40 hx Bd.notSynchronized (t := .boolean) Bd.returns (by simp) (hb hby d10_79) (by decide) (by decide) (by show Qr1 Z a aS kS s0_ s1_ s2_ s3_ s4_ s5_ s6_ s7_ aH kH k0_ k1_ k2_ k3_ k4_ k5_ k6_ k7_ h0 n0 _ T40.heap _; rw [e40]; exact ⟨rfl, N40, KC40, Fs_41, Fh_42, Fw40, V_aS_45, V_aH_46⟩)
theorem d10_20 : decode prog_55_method_3_code 20 = .ok (.iconst 0, 1) := by decide +kernel
theorem d10_21 : decode prog_55_method_3_code 21 = .ok (.ireturn, 1) := by decide +kernel
theorem pnr2 : plainName "com/example/graph_of_conflicts/graphofconflicts/engine/OpenSnapshots" = true := by first | (simp [plainName, overriddenIn]; done) | decide +kernel
theorem pdr2_0 : parseMethodDescriptor "(J)I" = some ⟨[.long], some .int⟩ := by decide +kernel
theorem efr2 (m : MethodId) (x0 : Addr) (x1 : Int64) : entryFrame m #[(.ref x0), (.long x1)] 4 = mkF m 0 #[.val (.ref x0), .val (.long x1), .second, .unset] [] := by first | (simp [entryFrame, mkF, argsToLocals, Value.category]; done) | rfl
def Qr2 (Z : State) (a : Addr) (aS : Addr) (kS : ClassId) (s0_ : Int64) (s1_ : Int64) (s2_ : Int64) (s3_ : Int64) (s4_ : Int64) (s5_ : Int64) (s6_ : Int64) (s7_ : Int64) (aH : Addr) (kH : ClassId) (k0_ : Int32) (k1_ : Int32) (k2_ : Int32) (k3_ : Int32) (k4_ : Int32) (k5_ : Int32) (k6_ : Int32) (k7_ : Int32) (h0 : Heap) (n0 : Nat) (v : Option Value) (h : Heap) (L : List Loc) : Prop := v = some (.int (0 : Int32)) ∧ Fr n0 L ∧ Keep h0 h [a, aS, aH] ∧ Fld Z h a "com/example/graph_of_conflicts/graphofconflicts/engine/OpenSnapshots" "snapshots" "[J" (.ref aS) ∧ Fld Z h a "com/example/graph_of_conflicts/graphofconflicts/engine/OpenSnapshots" "holders" "[I" (.ref aH) ∧ Fld Z h a "com/example/graph_of_conflicts/graphofconflicts/engine/OpenSnapshots" "size" "I" (.int (1 : Int32)) ∧ Arv Z h aS kS .long (8 : Int32) [(.long s0_), (.long s1_), (.long s2_), (.long s3_), (.long s4_), (.long s5_), (.long s6_), (.long s7_)] (.long (0 : Int64)) ∧ Arv Z h aH kH .int (8 : Int32) [(.int (1 : Int32)), (.int k1_), (.int k2_), (.int k3_), (.int k4_), (.int k5_), (.int k6_), (.int k7_)] (.int (0 : Int32))
set_option maxRecDepth 65536 in
set_option maxHeartbeats 40000000 in
theorem rmr2 (l : Launch) (Z : State) (a0 : Array Value) (hw : ∀ d ∈ tables_1, d.before a0 Z = true) (ws : List Jvm.Cond) (a : Addr) (aS : Addr) (kS : ClassId) (s0_ : Int64) (s1_ : Int64) (s2_ : Int64) (s3_ : Int64) (s4_ : Int64) (s5_ : Int64) (s6_ : Int64) (s7_ : Int64) (aH : Addr) (kH : ClassId) (k0_ : Int32) (k1_ : Int32) (k2_ : Int32) (k3_ : Int32) (k4_ : Int32) (k5_ : Int32) (k6_ : Int32) (k7_ : Int32) (h0 : Heap) (n0 : Nat) (Z0 : n0 ≤ h0.size) (Fs : Fld Z h0 a "com/example/graph_of_conflicts/graphofconflicts/engine/OpenSnapshots" "snapshots" "[J" (.ref aS)) (Fh : Fld Z h0 a "com/example/graph_of_conflicts/graphofconflicts/engine/OpenSnapshots" "holders" "[I" (.ref aH)) (Fn : Fld Z h0 a "com/example/graph_of_conflicts/graphofconflicts/engine/OpenSnapshots" "size" "I" (.int (1 : Int32))) (Vs : Arv Z h0 aS kS .long (8 : Int32) [(.long s0_), (.long s1_), (.long s2_), (.long s3_), (.long s4_), (.long s5_), (.long s6_), (.long s7_)] (.long (0 : Int64))) (Vh : Arv Z h0 aH kH .int (8 : Int32) [(.int (2 : Int32)), (.int k1_), (.int k2_), (.int k3_), (.int k4_), (.int k5_), (.int k6_), (.int k7_)] (.int (0 : Int32))) (Ex : Exa Z h0 a "com/example/graph_of_conflicts/graphofconflicts/engine/OpenSnapshots") (ga : n0 ≤ a) (gS : n0 ≤ aS) (gH : n0 ≤ aH) (neS : a ≠ aS) (neH : a ≠ aH) (neSH : aS ≠ aH) :
    MetFree l (⟨"com/example/graph_of_conflicts/graphofconflicts/engine/OpenSnapshots", "remove", "(J)Z"⟩ : MethodName) (head1 (Jvm.Cond.code (⟨"com/example/graph_of_conflicts/graphofconflicts/engine/OpenSnapshots", "remove", "(J)Z"⟩ : MethodName) prog_55_method_3_code 4 (some .boolean) :: ws) ({ frames := 3, cells := 0, slots := 0, locals := 63 } : Room)) (fun aQ UQ => aQ = #[(.ref a), (.long s0_)] ∧ Z.Warmed39 UQ.vm ∧ UQ.heap = h0) (fun _ _ _ _ _ => True) (fun _ U o U' => ∃ v L, o = .returned v ∧ Qr2 Z a aS kS s0_ s1_ s2_ s3_ s4_ s5_ s6_ s7_ aH kH k0_ k1_ k2_ k3_ k4_ k5_ k6_ k7_ h0 n0 v U'.heap L ∧ FrameEnd U o U' L ({ frames := 3, cells := 0, slots := 0, locals := 63 } : Room).cells ({ frames := 3, cells := 0, slots := 0, locals := 63 } : Room).slots) := by
  refine MetFree.of_bodySF (plainFor_of_name pnr2) hisR ?_
  intro p e s m args below meth c s₁ Bd hml0 hP hK
  obtain ⟨rfl, hZ, hh⟩ := hP
  have hx := Bd.exec
  have hby := Bd.bytes
  have hml : c.maxLocals = 4 := hml0
  have hown : s.vm.findClass "com/example/graph_of_conflicts/graphofconflicts/engine/OpenSnapshots" = some m.cls := findClass_of_methodNamed Bd.named
  have hnm := (name_of_methodNamed Bd.named Bd.method).1
  have X0 : Stand p l e ({ frames := 3, cells := 0, slots := 0, locals := 63 } : Room) s m #[(.ref a), (.long s0_)] below meth c s₁ [] 0 0 := Stand.of_body Bd
  have e0 : s₁.heap = h0 := by rw [← hh, Bd.state]; rfl
  have N0 := Fr.nil n0
  show OGo p e below (OPost s (Qr2 Z a aS kS s0_ s1_ s2_ s3_ s4_ s5_ s6_ s7_ aH kH k0_ k1_ k2_ k3_ k4_ k5_ k6_ k7_ h0 n0) ({ frames := 3, cells := 0, slots := 0, locals := 63 } : Room).cells ({ frames := 3, cells := 0, slots := 0, locals := 63 } : Room).slots) (s₁.setTop (entryFrame m #[(.ref a), (.long s0_)] 4))
  refine OGo.step (fun uK kK => castTop (efr2 m a s0_) kK) ?_
  show OGo p e below _ (s₁.setTop (mkF m 0 #[.val (.ref a), .val (.long s0_), .second, .unset] []))
  refine OGo.step (fun uK kK => XS.aloadN X0.here hx rfl (hb hby d10_0) rfl rfl kK) ?_
  show OGo p e below _ (s₁.setTop (mkF m 1 #[.val (.ref a), .val (.long s0_), .second, .unset] [(.ref a)]))
  refine OGo.step (fun uK kK => XS.lloadN X0.here hx rfl (hb hby d10_1) rfl kK) ?_
  show OGo p e below _ (s₁.setTop (mkF m 2 #[.val (.ref a), .val (.long s0_), .second, .unset] [(.long s0_), (.ref a)]))
  obtain ⟨cq1, qc1, qd1⟩ := Ex.cell
  obtain ⟨_, _, ⟨T1, Lq1, kq_1, nq_1⟩, -, X1, ⟨Lc1, hQ1, lq1, yq1, zq1⟩, st1⟩ := X0.privateBack hx (y := (⟨"com/example/graph_of_conflicts/graphofconflicts/engine/OpenSnapshots", "indexOf", "(J)I"⟩ : MethodName)) hown (mvT hZ (hw _ (List.mem_of_getElem? (i := 25) rfl))) (mvT hZ (hw _ (List.mem_of_getElem? (i := 26) rfl))) (own_selP (mvT hZ (hw _ (List.mem_of_getElem? (i := 6) rfl))) (mvP hZ (hw _ (List.mem_of_getElem? (i := 27) rfl))) (mvT hZ (hw _ (List.mem_of_getElem? (i := 26) rfl))) (by decide)) (Cond.privateMethod_at (mvP hZ (hw _ (List.mem_of_getElem? (i := 27) rfl)) (args := #[]))) (mvT hZ (hw _ (List.mem_of_getElem? (i := 28) rfl))) (by decide) (backOf (W := 0) (rmx_h0 l Z a0 hw [] a aS kS s0_ s1_ s2_ s3_ s4_ s5_ s6_ s7_ h0 n0 Z0 Fs Fn Vs) hZ (hw _ (List.mem_of_getElem? (i := 28) rfl)) (hw _ (List.mem_of_getElem? (i := 7) rfl)) (by decide) (by decide)) (g := (mkF m 2 #[.val (.ref a), .val (.long s0_), .second, .unset] [(.long s0_), (.ref a)])) rfl (by rw [hml]; rfl) (Steps.refl _) (a := a) (by rw [e0]; exact qc1) qd1 (argsL := [(.long s0_)]) (rest := []) (lenOf pdr2_0 rfl) rfl (by show 2 * 0 + _ ≤ _; exact Nat.le_of_eq rfl) (hb hby d10_2) (fun _ _ => ⟨rfl, e0, (by decide : 0 + 0 ≤ _), (by decide : 0 + 0 ≤ _)⟩)
  dsimp only [Pt.U, Pt.locs, Pt.cells, Pt.slots] at X1 lq1 yq1 zq1 st1 hQ1
  subst lq1 yq1 zq1
  obtain ⟨rfl, Nq1, e1⟩ := hQ1
  have N1 := Fr.app N0 Nq1
  refine OGo.steps st1 ?_
  show OGo p e below _ (T1.setTop (mkF m 5 #[.val (.ref a), .val (.long s0_), .second, .unset] [(.int (0 : Int32))]))
  refine OGo.step (fun uK kK => XS.istoreN X1.here hx rfl (hb hby d10_5) rfl (l' := #[.val (.ref a), .val (.long s0_), .second, .val (.int (0 : Int32))]) rfl kK) ?_
  show OGo p e below _ (T1.setTop (mkF m 6 #[.val (.ref a), .val (.long s0_), .second, .val (.int (0 : Int32))] []))
  refine OGo.step (fun uK kK => XS.aloadN X1.here hx rfl (hb hby d10_6) rfl rfl kK) ?_
  show OGo p e below _ (T1.setTop (mkF m 7 #[.val (.ref a), .val (.long s0_), .second, .val (.int (0 : Int32))] [(.ref a)]))
  obtain ⟨T2, X2, e2, st2⟩ := getF X1 hx hZ hown (host := "") (Or.inl (hw _ (List.mem_of_getElem? (i := 18) rfl))) Via.refl e1 Fh (g := (mkF m 7 #[.val (.ref a), .val (.long s0_), .second, .val (.int (0 : Int32))] [(.ref a)])) rfl rfl (hb hby d10_7)
  refine OGo.step (fun uK kK => st2 uK kK) ?_
  show OGo p e below _ (T2.setTop (mkF m 10 #[.val (.ref a), .val (.long s0_), .second, .val (.int (0 : Int32))] [(.ref aH)]))
  refine OGo.step (fun uK kK => XS.iloadN X2.here hx rfl (hb hby d10_10) rfl kK) ?_
  show OGo p e below _ (T2.setTop (mkF m 11 #[.val (.ref a), .val (.long s0_), .second, .val (.int (0 : Int32))] [(.int (0 : Int32)), (.ref aH)]))
  refine OGo.step (t' := T2.setTop (mkF m 12 #[.val (.ref a), .val (.long s0_), .second, .val (.int (0 : Int32))] [(.int (0 : Int32)), (.ref aH), (.int (0 : Int32)), (.ref aH)])) (fun uK kK => ?_) ?_
  · show Steps p.tables e below (T2.setTop (mkF m 11 #[.val (.ref a), .val (.long s0_), .second, .val (.int (0 : Int32))] [(.int (0 : Int32)), (.ref aH)])) _
    jvm_step X2.here [X2.here.top, hx, (hb hby d10_11), Value.category]
    exact kK
  show OGo p e below _ (T2.setTop (mkF m 12 #[.val (.ref a), .val (.long s0_), .second, .val (.int (0 : Int32))] [(.int (0 : Int32)), (.ref aH), (.int (0 : Int32)), (.ref aH)]))
  obtain ⟨cl3, Ar3, q3, S3, M3, H3, G3⟩ := id Vh
  have hin3 : ¬ ((0 : Int32) < 0 ∨ cl3.slots.size ≤ ((0 : Int32)).toNatClampNeg) := inb_of S3 ⟨by decide, by decide⟩
  have hat3 : cl3.slots[((0 : Int32)).toNatClampNeg]? = some (.int (2 : Int32)) := H3.at hin3 rfl
  refine OGo.step (fun uK kK => X2.iaload hx (j := (0 : Int32)) (v := (.int (2 : Int32))) (by rw [e2]; exact Ar3.1) (State.isArrayOf_alike hZ.alike Ar3.2.1) Ar3.2.2 hin3 hat3 (g := (mkF m 12 #[.val (.ref a), .val (.long s0_), .second, .val (.int (0 : Int32))] [(.int (0 : Int32)), (.ref aH), (.int (0 : Int32)), (.ref aH)])) rfl rfl (hb hby d10_12) uK kK) ?_
  show OGo p e below _ (T2.setTop (mkF m 13 #[.val (.ref a), .val (.long s0_), .second, .val (.int (0 : Int32))] [(.int (2 : Int32)), (.int (0 : Int32)), (.ref aH)]))
  refine OGo.step (fun uK kK => XS.iconst X2.here hx rfl (hb hby d10_13) kK) ?_
  show OGo p e below _ (T2.setTop (mkF m 14 #[.val (.ref a), .val (.long s0_), .second, .val (.int (0 : Int32))] [(.int (1 : Int32)), (.int (2 : Int32)), (.int (0 : Int32)), (.ref aH)]))
  refine OGo.step (fun uK kK => XS.isub X2.here hx rfl (hb hby d10_14) rfl kK) ?_
  show OGo p e below _ (T2.setTop (mkF m 15 #[.val (.ref a), .val (.long s0_), .second, .val (.int (0 : Int32))] [(.int ((2 : Int32) - (1 : Int32))), (.int (0 : Int32)), (.ref aH)]))
  have ez4 : ((2 : Int32) - (1 : Int32)) = (1 : Int32) := by decide
  rw [ez4]
  show OGo p e below _ (T2.setTop (mkF m 15 #[.val (.ref a), .val (.long s0_), .second, .val (.int (0 : Int32))] [(.int (1 : Int32)), (.int (0 : Int32)), (.ref aH)]))
  refine OGo.step (t' := T2.setTop (mkF m 16 #[.val (.ref a), .val (.long s0_), .second, .val (.int (0 : Int32))] [(.int (1 : Int32)), (.int (0 : Int32)), (.ref aH), (.int (1 : Int32))])) (fun uK kK => ?_) ?_
  · show Steps p.tables e below (T2.setTop (mkF m 15 #[.val (.ref a), .val (.long s0_), .second, .val (.int (0 : Int32))] [(.int (1 : Int32)), (.int (0 : Int32)), (.ref aH)])) _
    jvm_step X2.here [X2.here.top, hx, (hb hby d10_15), Value.category]
    exact kK
  show OGo p e below _ (T2.setTop (mkF m 16 #[.val (.ref a), .val (.long s0_), .second, .val (.int (0 : Int32))] [(.int (1 : Int32)), (.int (0 : Int32)), (.ref aH), (.int (1 : Int32))]))
  obtain ⟨cl5, Ar5, q5, S5, M5, H5, G5⟩ := id Vh
  have hin5 : ¬ ((0 : Int32) < 0 ∨ cl5.slots.size ≤ ((0 : Int32)).toNatClampNeg) := inb_of S5 ⟨by decide, by decide⟩
  obtain ⟨T5, h5, X5, e5, W5, st5⟩ := stI X2 hx hZ e2 Ar5 (j := (0 : Int32)) hin5 (g := (mkF m 16 #[.val (.ref a), .val (.long s0_), .second, .val (.int (0 : Int32))] [(.int (1 : Int32)), (.int (0 : Int32)), (.ref aH), (.int (1 : Int32))])) rfl rfl (hb hby d10_16)
  have V_aH_5 : Arv Z h5 aH kH .int (8 : Int32) [(.int (1 : Int32)), (.int k1_), (.int k2_), (.int k3_), (.int k4_), (.int k5_), (.int k6_), (.int k7_)] (.int (0 : Int32)) := Arv.set Ar5 q5 S5 M5 H5 G5 rfl W5 0 rfl (Nat.le_of_ble_eq_true rfl)
  have Fs_6 := (Fs.other W5 (Or.inl neH))
  have Fh_7 := (Fh.other W5 (Or.inl neH))
  have Fn_8 := (Fn.other W5 (Or.inl neH))
  have Vs_9 := (Vs.other W5 neSH)
  have Ex_11 := (Ex.wr W5)
  have ZS5 : n0 ≤ h5.size := Nat.le_trans Z0 (Keep.of_wr W5).1
  have KC5 : Keep h0 h5 [a, aS, aH] := (Keep.refl h0 [a, aS, aH]).wr W5 (Or.inl (List.mem_of_getElem? (i := 2) rfl))
  have N5 := Fr.snoc X5 N1 gH
  refine OGo.step (fun uK kK => st5 uK kK) ?_
  show OGo p e below _ (T5.setTop (mkF m 17 #[.val (.ref a), .val (.long s0_), .second, .val (.int (0 : Int32))] [(.int (1 : Int32))]))
  have hc17 : (0 : Int32) < (1 : Int32) := by decide
  refine OGo.step (fun uK kK => XS.ifNo X5.here hx rfl (hb hby d10_17) rfl ((if0 _ _).trans (tlt hc17).2.2.2) kK) ?_
  show OGo p e below _ (T5.setTop (mkF m 20 #[.val (.ref a), .val (.long s0_), .second, .val (.int (0 : Int32))] []))
  refine OGo.step (fun uK kK => XS.iconst X5.here hx rfl (hb hby d10_20) kK) ?_
  show OGo p e below _ (T5.setTop (mkF m 21 #[.val (.ref a), .val (.long s0_), .second, .val (.int (0 : Int32))] [(.int (0 : Int32))]))
  exact OGo.retN X5 hx Bd.notSynchronized (t := .boolean) Bd.returns (by simp) (hb hby d10_21) (by decide) (by decide) (by show Qr2 Z a aS kS s0_ s1_ s2_ s3_ s4_ s5_ s6_ s7_ aH kH k0_ k1_ k2_ k3_ k4_ k5_ k6_ k7_ h0 n0 _ T5.heap _; rw [e5]; exact ⟨rfl, N5, KC5, Fs_6, Fh_7, Fn_8, Vs_9, V_aH_5⟩)
theorem pnr3 : plainName "com/example/graph_of_conflicts/graphofconflicts/engine/OpenSnapshots" = true := by first | (simp [plainName, overriddenIn]; done) | decide +kernel
theorem pdr3_0 : parseMethodDescriptor "(J)I" = some ⟨[.long], some .int⟩ := by decide +kernel
theorem efr3 (m : MethodId) (x0 : Addr) (x1 : Int64) : entryFrame m #[(.ref x0), (.long x1)] 4 = mkF m 0 #[.val (.ref x0), .val (.long x1), .second, .unset] [] := by first | (simp [entryFrame, mkF, argsToLocals, Value.category]; done) | rfl
def Qr3 (Z : State) (a : Addr) (aS : Addr) (kS : ClassId) (s0_ : Int64) (s1_ : Int64) (s2_ : Int64) (s3_ : Int64) (s4_ : Int64) (s5_ : Int64) (s6_ : Int64) (s7_ : Int64) (aH : Addr) (kH : ClassId) (k0_ : Int32) (k1_ : Int32) (k2_ : Int32) (k3_ : Int32) (k4_ : Int32) (k5_ : Int32) (k6_ : Int32) (k7_ : Int32) (h0 : Heap) (n0 : Nat) (v : Option Value) (h : Heap) (L : List Loc) : Prop := v = some (.int (1 : Int32)) ∧ Fr n0 L ∧ Keep h0 h [a, aS, aH] ∧ Fld Z h a "com/example/graph_of_conflicts/graphofconflicts/engine/OpenSnapshots" "snapshots" "[J" (.ref aS) ∧ Fld Z h a "com/example/graph_of_conflicts/graphofconflicts/engine/OpenSnapshots" "holders" "[I" (.ref aH) ∧ Fld Z h a "com/example/graph_of_conflicts/graphofconflicts/engine/OpenSnapshots" "size" "I" (.int (1 : Int32)) ∧ Arv Z h aS kS .long (8 : Int32) [(.long s1_), (.long s1_), (.long s2_), (.long s3_), (.long s4_), (.long s5_), (.long s6_), (.long s7_)] (.long (0 : Int64)) ∧ Arv Z h aH kH .int (8 : Int32) [(.int (1 : Int32)), (.int (1 : Int32)), (.int k2_), (.int k3_), (.int k4_), (.int k5_), (.int k6_), (.int k7_)] (.int (0 : Int32))
set_option maxRecDepth 65536 in
set_option maxHeartbeats 40000000 in
theorem rmr3 (l : Launch) (Z : State) (a0 : Array Value) (hw : ∀ d ∈ tables_1, d.before a0 Z = true) (ws : List Jvm.Cond) (a : Addr) (aS : Addr) (kS : ClassId) (s0_ : Int64) (s1_ : Int64) (s2_ : Int64) (s3_ : Int64) (s4_ : Int64) (s5_ : Int64) (s6_ : Int64) (s7_ : Int64) (aH : Addr) (kH : ClassId) (k0_ : Int32) (k1_ : Int32) (k2_ : Int32) (k3_ : Int32) (k4_ : Int32) (k5_ : Int32) (k6_ : Int32) (k7_ : Int32) (h0 : Heap) (n0 : Nat) (Z0 : n0 ≤ h0.size) (Fs : Fld Z h0 a "com/example/graph_of_conflicts/graphofconflicts/engine/OpenSnapshots" "snapshots" "[J" (.ref aS)) (Fh : Fld Z h0 a "com/example/graph_of_conflicts/graphofconflicts/engine/OpenSnapshots" "holders" "[I" (.ref aH)) (Fn : Fld Z h0 a "com/example/graph_of_conflicts/graphofconflicts/engine/OpenSnapshots" "size" "I" (.int (2 : Int32))) (Vs : Arv Z h0 aS kS .long (8 : Int32) [(.long s0_), (.long s1_), (.long s2_), (.long s3_), (.long s4_), (.long s5_), (.long s6_), (.long s7_)] (.long (0 : Int64))) (Vh : Arv Z h0 aH kH .int (8 : Int32) [(.int (1 : Int32)), (.int (1 : Int32)), (.int k2_), (.int k3_), (.int k4_), (.int k5_), (.int k6_), (.int k7_)] (.int (0 : Int32))) (Ex : Exa Z h0 a "com/example/graph_of_conflicts/graphofconflicts/engine/OpenSnapshots") (ga : n0 ≤ a) (gS : n0 ≤ aS) (gH : n0 ≤ aH) (neS : a ≠ aS) (neH : a ≠ aH) (neSH : aS ≠ aH) (hlt : s0_ < s1_) :
    MetFree l (⟨"com/example/graph_of_conflicts/graphofconflicts/engine/OpenSnapshots", "remove", "(J)Z"⟩ : MethodName) (head1 (Jvm.Cond.code (⟨"com/example/graph_of_conflicts/graphofconflicts/engine/OpenSnapshots", "remove", "(J)Z"⟩ : MethodName) prog_55_method_3_code 4 (some .boolean) :: ws) ({ frames := 3, cells := 0, slots := 0, locals := 63 } : Room)) (fun aQ UQ => aQ = #[(.ref a), (.long s0_)] ∧ Z.Warmed39 UQ.vm ∧ UQ.heap = h0) (fun _ _ _ _ _ => True) (fun _ U o U' => ∃ v L, o = .returned v ∧ Qr3 Z a aS kS s0_ s1_ s2_ s3_ s4_ s5_ s6_ s7_ aH kH k0_ k1_ k2_ k3_ k4_ k5_ k6_ k7_ h0 n0 v U'.heap L ∧ FrameEnd U o U' L ({ frames := 3, cells := 0, slots := 0, locals := 63 } : Room).cells ({ frames := 3, cells := 0, slots := 0, locals := 63 } : Room).slots) := by
  refine MetFree.of_bodySF (plainFor_of_name pnr3) hisR ?_
  intro p e s m args below meth c s₁ Bd hml0 hP hK
  obtain ⟨rfl, hZ, hh⟩ := hP
  have hx := Bd.exec
  have hby := Bd.bytes
  have hml : c.maxLocals = 4 := hml0
  have hown : s.vm.findClass "com/example/graph_of_conflicts/graphofconflicts/engine/OpenSnapshots" = some m.cls := findClass_of_methodNamed Bd.named
  have hnm := (name_of_methodNamed Bd.named Bd.method).1
  have X0 : Stand p l e ({ frames := 3, cells := 0, slots := 0, locals := 63 } : Room) s m #[(.ref a), (.long s0_)] below meth c s₁ [] 0 0 := Stand.of_body Bd
  have e0 : s₁.heap = h0 := by rw [← hh, Bd.state]; rfl
  have N0 := Fr.nil n0
  show OGo p e below (OPost s (Qr3 Z a aS kS s0_ s1_ s2_ s3_ s4_ s5_ s6_ s7_ aH kH k0_ k1_ k2_ k3_ k4_ k5_ k6_ k7_ h0 n0) ({ frames := 3, cells := 0, slots := 0, locals := 63 } : Room).cells ({ frames := 3, cells := 0, slots := 0, locals := 63 } : Room).slots) (s₁.setTop (entryFrame m #[(.ref a), (.long s0_)] 4))
  refine OGo.step (fun uK kK => castTop (efr3 m a s0_) kK) ?_
  show OGo p e below _ (s₁.setTop (mkF m 0 #[.val (.ref a), .val (.long s0_), .second, .unset] []))
  refine OGo.step (fun uK kK => XS.aloadN X0.here hx rfl (hb hby d10_0) rfl rfl kK) ?_
  show OGo p e below _ (s₁.setTop (mkF m 1 #[.val (.ref a), .val (.long s0_), .second, .unset] [(.ref a)]))
  refine OGo.step (fun uK kK => XS.lloadN X0.here hx rfl (hb hby d10_1) rfl kK) ?_
  show OGo p e below _ (s₁.setTop (mkF m 2 #[.val (.ref a), .val (.long s0_), .second, .unset] [(.long s0_), (.ref a)]))
  obtain ⟨cq1, qc1, qd1⟩ := Ex.cell
  obtain ⟨_, _, ⟨T1, Lq1, kq_1, nq_1⟩, -, X1, ⟨Lc1, hQ1, lq1, yq1, zq1⟩, st1⟩ := X0.privateBack hx (y := (⟨"com/example/graph_of_conflicts/graphofconflicts/engine/OpenSnapshots", "indexOf", "(J)I"⟩ : MethodName)) hown (mvT hZ (hw _ (List.mem_of_getElem? (i := 25) rfl))) (mvT hZ (hw _ (List.mem_of_getElem? (i := 26) rfl))) (own_selP (mvT hZ (hw _ (List.mem_of_getElem? (i := 6) rfl))) (mvP hZ (hw _ (List.mem_of_getElem? (i := 27) rfl))) (mvT hZ (hw _ (List.mem_of_getElem? (i := 26) rfl))) (by decide)) (Cond.privateMethod_at (mvP hZ (hw _ (List.mem_of_getElem? (i := 27) rfl)) (args := #[]))) (mvT hZ (hw _ (List.mem_of_getElem? (i := 28) rfl))) (by decide) (backOf (W := 0) (rmx_t0 l Z a0 hw [] a aS kS s0_ s1_ s2_ s3_ s4_ s5_ s6_ s7_ h0 n0 Z0 Fs Fn Vs hlt) hZ (hw _ (List.mem_of_getElem? (i := 28) rfl)) (hw _ (List.mem_of_getElem? (i := 7) rfl)) (by decide) (by decide)) (g := (mkF m 2 #[.val (.ref a), .val (.long s0_), .second, .unset] [(.long s0_), (.ref a)])) rfl (by rw [hml]; rfl) (Steps.refl _) (a := a) (by rw [e0]; exact qc1) qd1 (argsL := [(.long s0_)]) (rest := []) (lenOf pdr3_0 rfl) rfl (by show 2 * 0 + _ ≤ _; exact Nat.le_of_eq rfl) (hb hby d10_2) (fun _ _ => ⟨rfl, e0, (by decide : 0 + 0 ≤ _), (by decide : 0 + 0 ≤ _)⟩)
  dsimp only [Pt.U, Pt.locs, Pt.cells, Pt.slots] at X1 lq1 yq1 zq1 st1 hQ1
  subst lq1 yq1 zq1
  obtain ⟨rfl, Nq1, e1⟩ := hQ1
  have N1 := Fr.app N0 Nq1
  refine OGo.steps st1 ?_
  show OGo p e below _ (T1.setTop (mkF m 5 #[.val (.ref a), .val (.long s0_), .second, .unset] [(.int (0 : Int32))]))
  refine OGo.step (fun uK kK => XS.istoreN X1.here hx rfl (hb hby d10_5) rfl (l' := #[.val (.ref a), .val (.long s0_), .second, .val (.int (0 : Int32))]) rfl kK) ?_
  show OGo p e below _ (T1.setTop (mkF m 6 #[.val (.ref a), .val (.long s0_), .second, .val (.int (0 : Int32))] []))
  refine OGo.step (fun uK kK => XS.aloadN X1.here hx rfl (hb hby d10_6) rfl rfl kK) ?_
  show OGo p e below _ (T1.setTop (mkF m 7 #[.val (.ref a), .val (.long s0_), .second, .val (.int (0 : Int32))] [(.ref a)]))
  obtain ⟨T2, X2, e2, st2⟩ := getF X1 hx hZ hown (host := "") (Or.inl (hw _ (List.mem_of_getElem? (i := 18) rfl))) Via.refl e1 Fh (g := (mkF m 7 #[.val (.ref a), .val (.long s0_), .second, .val (.int (0 : Int32))] [(.ref a)])) rfl rfl (hb hby d10_7)
  refine OGo.step (fun uK kK => st2 uK kK) ?_
  show OGo p e below _ (T2.setTop (mkF m 10 #[.val (.ref a), .val (.long s0_), .second, .val (.int (0 : Int32))] [(.ref aH)]))
  refine OGo.step (fun uK kK => XS.iloadN X2.here hx rfl (hb hby d10_10) rfl kK) ?_
  show OGo p e below _ (T2.setTop (mkF m 11 #[.val (.ref a), .val (.long s0_), .second, .val (.int (0 : Int32))] [(.int (0 : Int32)), (.ref aH)]))
  refine OGo.step (t' := T2.setTop (mkF m 12 #[.val (.ref a), .val (.long s0_), .second, .val (.int (0 : Int32))] [(.int (0 : Int32)), (.ref aH), (.int (0 : Int32)), (.ref aH)])) (fun uK kK => ?_) ?_
  · show Steps p.tables e below (T2.setTop (mkF m 11 #[.val (.ref a), .val (.long s0_), .second, .val (.int (0 : Int32))] [(.int (0 : Int32)), (.ref aH)])) _
    jvm_step X2.here [X2.here.top, hx, (hb hby d10_11), Value.category]
    exact kK
  show OGo p e below _ (T2.setTop (mkF m 12 #[.val (.ref a), .val (.long s0_), .second, .val (.int (0 : Int32))] [(.int (0 : Int32)), (.ref aH), (.int (0 : Int32)), (.ref aH)]))
  obtain ⟨cl3, Ar3, q3, S3, M3, H3, G3⟩ := id Vh
  have hin3 : ¬ ((0 : Int32) < 0 ∨ cl3.slots.size ≤ ((0 : Int32)).toNatClampNeg) := inb_of S3 ⟨by decide, by decide⟩
  have hat3 : cl3.slots[((0 : Int32)).toNatClampNeg]? = some (.int (1 : Int32)) := H3.at hin3 rfl
  refine OGo.step (fun uK kK => X2.iaload hx (j := (0 : Int32)) (v := (.int (1 : Int32))) (by rw [e2]; exact Ar3.1) (State.isArrayOf_alike hZ.alike Ar3.2.1) Ar3.2.2 hin3 hat3 (g := (mkF m 12 #[.val (.ref a), .val (.long s0_), .second, .val (.int (0 : Int32))] [(.int (0 : Int32)), (.ref aH), (.int (0 : Int32)), (.ref aH)])) rfl rfl (hb hby d10_12) uK kK) ?_
  show OGo p e below _ (T2.setTop (mkF m 13 #[.val (.ref a), .val (.long s0_), .second, .val (.int (0 : Int32))] [(.int (1 : Int32)), (.int (0 : Int32)), (.ref aH)]))
  refine OGo.step (fun uK kK => XS.iconst X2.here hx rfl (hb hby d10_13) kK) ?_
  show OGo p e below _ (T2.setTop (mkF m 14 #[.val (.ref a), .val (.long s0_), .second, .val (.int (0 : Int32))] [(.int (1 : Int32)), (.int (1 : Int32)), (.int (0 : Int32)), (.ref aH)]))
  refine OGo.step (fun uK kK => XS.isub X2.here hx rfl (hb hby d10_14) rfl kK) ?_
  show OGo p e below _ (T2.setTop (mkF m 15 #[.val (.ref a), .val (.long s0_), .second, .val (.int (0 : Int32))] [(.int ((1 : Int32) - (1 : Int32))), (.int (0 : Int32)), (.ref aH)]))
  have ez4 : ((1 : Int32) - (1 : Int32)) = (0 : Int32) := by decide
  rw [ez4]
  show OGo p e below _ (T2.setTop (mkF m 15 #[.val (.ref a), .val (.long s0_), .second, .val (.int (0 : Int32))] [(.int (0 : Int32)), (.int (0 : Int32)), (.ref aH)]))
  refine OGo.step (t' := T2.setTop (mkF m 16 #[.val (.ref a), .val (.long s0_), .second, .val (.int (0 : Int32))] [(.int (0 : Int32)), (.int (0 : Int32)), (.ref aH), (.int (0 : Int32))])) (fun uK kK => ?_) ?_
  · show Steps p.tables e below (T2.setTop (mkF m 15 #[.val (.ref a), .val (.long s0_), .second, .val (.int (0 : Int32))] [(.int (0 : Int32)), (.int (0 : Int32)), (.ref aH)])) _
    jvm_step X2.here [X2.here.top, hx, (hb hby d10_15), Value.category]
    exact kK
  show OGo p e below _ (T2.setTop (mkF m 16 #[.val (.ref a), .val (.long s0_), .second, .val (.int (0 : Int32))] [(.int (0 : Int32)), (.int (0 : Int32)), (.ref aH), (.int (0 : Int32))]))
  obtain ⟨cl5, Ar5, q5, S5, M5, H5, G5⟩ := id Vh
  have hin5 : ¬ ((0 : Int32) < 0 ∨ cl5.slots.size ≤ ((0 : Int32)).toNatClampNeg) := inb_of S5 ⟨by decide, by decide⟩
  obtain ⟨T5, h5, X5, e5, W5, st5⟩ := stI X2 hx hZ e2 Ar5 (j := (0 : Int32)) hin5 (g := (mkF m 16 #[.val (.ref a), .val (.long s0_), .second, .val (.int (0 : Int32))] [(.int (0 : Int32)), (.int (0 : Int32)), (.ref aH), (.int (0 : Int32))])) rfl rfl (hb hby d10_16)
  have V_aH_5 : Arv Z h5 aH kH .int (8 : Int32) [(.int (0 : Int32)), (.int (1 : Int32)), (.int k2_), (.int k3_), (.int k4_), (.int k5_), (.int k6_), (.int k7_)] (.int (0 : Int32)) := Arv.set Ar5 q5 S5 M5 H5 G5 rfl W5 0 rfl (Nat.le_of_ble_eq_true rfl)
  have Fs_6 := (Fs.other W5 (Or.inl neH))
  have Fh_7 := (Fh.other W5 (Or.inl neH))
  have Fn_8 := (Fn.other W5 (Or.inl neH))
  have Vs_9 := (Vs.other W5 neSH)
  have Ex_11 := (Ex.wr W5)
  have ZS5 : n0 ≤ h5.size := Nat.le_trans Z0 (Keep.of_wr W5).1
  have KC5 : Keep h0 h5 [a, aS, aH] := (Keep.refl h0 [a, aS, aH]).wr W5 (Or.inl (List.mem_of_getElem? (i := 2) rfl))
  have N5 := Fr.snoc X5 N1 gH
  refine OGo.step (fun uK kK => st5 uK kK) ?_
  show OGo p e below _ (T5.setTop (mkF m 17 #[.val (.ref a), .val (.long s0_), .second, .val (.int (0 : Int32))] [(.int (0 : Int32))]))
  have hc17 : ¬ ((0 : Int32) < (0 : Int32)) := by decide
  refine OGo.step (fun uK kK => XS.ifYes X5.here hx rfl (pc0 := 17) (pc' := 22) rfl (hb hby d10_17) rfl ((if0 _ _).trans (flt hc17).2.2.2) (by decide) (by decide) kK) ?_
  show OGo p e below _ (T5.setTop (mkF m 22 #[.val (.ref a), .val (.long s0_), .second, .val (.int (0 : Int32))] []))
  refine OGo.step (fun uK kK => XS.aloadN X5.here hx rfl (hb hby d10_22) rfl rfl kK) ?_
  show OGo p e below _ (T5.setTop (mkF m 23 #[.val (.ref a), .val (.long s0_), .second, .val (.int (0 : Int32))] [(.ref a)]))
  obtain ⟨T12, X12, e12, st12⟩ := getF X5 hx hZ hown (host := "") (Or.inl (hw _ (List.mem_of_getElem? (i := 15) rfl))) Via.refl e5 Fs_6 (g := (mkF m 23 #[.val (.ref a), .val (.long s0_), .second, .val (.int (0 : Int32))] [(.ref a)])) rfl rfl (hb hby d10_23)
  refine OGo.step (fun uK kK => st12 uK kK) ?_
  show OGo p e below _ (T12.setTop (mkF m 26 #[.val (.ref a), .val (.long s0_), .second, .val (.int (0 : Int32))] [(.ref aS)]))
  refine OGo.step (fun uK kK => XS.iloadN X12.here hx rfl (hb hby d10_26) rfl kK) ?_
  show OGo p e below _ (T12.setTop (mkF m 27 #[.val (.ref a), .val (.long s0_), .second, .val (.int (0 : Int32))] [(.int (0 : Int32)), (.ref aS)]))
  refine OGo.step (fun uK kK => XS.iconst X12.here hx rfl (hb hby d10_27) kK) ?_
  show OGo p e below _ (T12.setTop (mkF m 28 #[.val (.ref a), .val (.long s0_), .second, .val (.int (0 : Int32))] [(.int (1 : Int32)), (.int (0 : Int32)), (.ref aS)]))
  refine OGo.step (fun uK kK => XS.iadd X12.here hx rfl (hb hby d10_28) rfl kK) ?_
  show OGo p e below _ (T12.setTop (mkF m 29 #[.val (.ref a), .val (.long s0_), .second, .val (.int (0 : Int32))] [(.int ((0 : Int32) + (1 : Int32))), (.ref aS)]))
  have ez13 : ((0 : Int32) + (1 : Int32)) = (1 : Int32) := by decide
  rw [ez13]
  show OGo p e below _ (T12.setTop (mkF m 29 #[.val (.ref a), .val (.long s0_), .second, .val (.int (0 : Int32))] [(.int (1 : Int32)), (.ref aS)]))
  refine OGo.step (fun uK kK => XS.aloadN X12.here hx rfl (hb hby d10_29) rfl rfl kK) ?_
  show OGo p e below _ (T12.setTop (mkF m 30 #[.val (.ref a), .val (.long s0_), .second, .val (.int (0 : Int32))] [(.ref a), (.int (1 : Int32)), (.ref aS)]))
  obtain ⟨T14, X14, e14, st14⟩ := getF X12 hx hZ hown (host := "") (Or.inl (hw _ (List.mem_of_getElem? (i := 15) rfl))) Via.refl e12 Fs_6 (g := (mkF m 30 #[.val (.ref a), .val (.long s0_), .second, .val (.int (0 : Int32))] [(.ref a), (.int (1 : Int32)), (.ref aS)])) rfl rfl (hb hby d10_30)
  refine OGo.step (fun uK kK => st14 uK kK) ?_
  show OGo p e below _ (T14.setTop (mkF m 33 #[.val (.ref a), .val (.long s0_), .second, .val (.int (0 : Int32))] [(.ref aS), (.int (1 : Int32)), (.ref aS)]))
  refine OGo.step (fun uK kK => XS.iloadN X14.here hx rfl (hb hby d10_33) rfl kK) ?_
  show OGo p e below _ (T14.setTop (mkF m 34 #[.val (.ref a), .val (.long s0_), .second, .val (.int (0 : Int32))] [(.int (0 : Int32)), (.ref aS), (.int (1 : Int32)), (.ref aS)]))
  refine OGo.step (fun uK kK => XS.aloadN X14.here hx rfl (hb hby d10_34) rfl rfl kK) ?_
  show OGo p e below _ (T14.setTop (mkF m 35 #[.val (.ref a), .val (.long s0_), .second, .val (.int (0 : Int32))] [(.ref a), (.int (0 : Int32)), (.ref aS), (.int (1 : Int32)), (.ref aS)]))
  obtain ⟨T15, X15, e15, st15⟩ := getF X14 hx hZ hown (host := "") (Or.inl (hw _ (List.mem_of_getElem? (i := 29) rfl))) Via.refl e14 Fn_8 (g := (mkF m 35 #[.val (.ref a), .val (.long s0_), .second, .val (.int (0 : Int32))] [(.ref a), (.int (0 : Int32)), (.ref aS), (.int (1 : Int32)), (.ref aS)])) rfl rfl (hb hby d10_35)
  refine OGo.step (fun uK kK => st15 uK kK) ?_
  show OGo p e below _ (T15.setTop (mkF m 38 #[.val (.ref a), .val (.long s0_), .second, .val (.int (0 : Int32))] [(.int (2 : Int32)), (.int (0 : Int32)), (.ref aS), (.int (1 : Int32)), (.ref aS)]))
  refine OGo.step (fun uK kK => XS.iloadN X15.here hx rfl (hb hby d10_38) rfl kK) ?_
  show OGo p e below _ (T15.setTop (mkF m 39 #[.val (.ref a), .val (.long s0_), .second, .val (.int (0 : Int32))] [(.int (0 : Int32)), (.int (2 : Int32)), (.int (0 : Int32)), (.ref aS), (.int (1 : Int32)), (.ref aS)]))
  refine OGo.step (fun uK kK => XS.isub X15.here hx rfl (hb hby d10_39) rfl kK) ?_
  show OGo p e below _ (T15.setTop (mkF m 40 #[.val (.ref a), .val (.long s0_), .second, .val (.int (0 : Int32))] [(.int ((2 : Int32) - (0 : Int32))), (.int (0 : Int32)), (.ref aS), (.int (1 : Int32)), (.ref aS)]))
  have ez16 : ((2 : Int32) - (0 : Int32)) = (2 : Int32) := by decide
  rw [ez16]
  show OGo p e below _ (T15.setTop (mkF m 40 #[.val (.ref a), .val (.long s0_), .second, .val (.int (0 : Int32))] [(.int (2 : Int32)), (.int (0 : Int32)), (.ref aS), (.int (1 : Int32)), (.ref aS)]))
  refine OGo.step (fun uK kK => XS.iconst X15.here hx rfl (hb hby d10_40) kK) ?_
  show OGo p e below _ (T15.setTop (mkF m 41 #[.val (.ref a), .val (.long s0_), .second, .val (.int (0 : Int32))] [(.int (1 : Int32)), (.int (2 : Int32)), (.int (0 : Int32)), (.ref aS), (.int (1 : Int32)), (.ref aS)]))
  refine OGo.step (fun uK kK => XS.isub X15.here hx rfl (hb hby d10_41) rfl kK) ?_
  show OGo p e below _ (T15.setTop (mkF m 42 #[.val (.ref a), .val (.long s0_), .second, .val (.int (0 : Int32))] [(.int ((2 : Int32) - (1 : Int32))), (.int (0 : Int32)), (.ref aS), (.int (1 : Int32)), (.ref aS)]))
  have ez17 : ((2 : Int32) - (1 : Int32)) = (1 : Int32) := by decide
  rw [ez17]
  show OGo p e below _ (T15.setTop (mkF m 42 #[.val (.ref a), .val (.long s0_), .second, .val (.int (0 : Int32))] [(.int (1 : Int32)), (.int (0 : Int32)), (.ref aS), (.int (1 : Int32)), (.ref aS)]))
  obtain ⟨T18, h18, L18, X18, e18, N18, K18, V18, st18⟩ := cpA X15 hx hZ hown (hw _ (List.mem_of_getElem? (i := 41) rfl)) (hw _ (List.mem_of_getElem? (i := 44) rfl)) (hw _ (List.mem_of_getElem? (i := 42) rfl)) (hw _ (List.mem_of_getElem? (i := 43) rfl)) e15 (sp := (1 : Int32)) (dp := (0 : Int32)) (nn := (1 : Int32)) (us := [(.long s1_)]) Vs_9 Vs_9 (Or.inl ⟨rfl, rfl⟩) (by decide) (by decide) (by decide) (by decide) (by decide) rfl (Nat.le_of_ble_eq_true rfl) N5 gS (g := (mkF m 42 #[.val (.ref a), .val (.long s0_), .second, .val (.int (0 : Int32))] [(.int (1 : Int32)), (.int (0 : Int32)), (.ref aS), (.int (1 : Int32)), (.ref aS)])) rfl (by rw [hml]; rfl) rfl (hb hby d10_42) (by decide) (W := 0) (by show 2 * 0 + _ ≤ _; exact Nat.le_of_eq rfl) (by decide)
  have V_aS_18 : Arv Z h18 aS kS .long (8 : Int32) [(.long s1_), (.long s1_), (.long s2_), (.long s3_), (.long s4_), (.long s5_), (.long s6_), (.long s7_)] (.long (0 : Int64)) := V18
  have Fs_19 := (Fs_6.keep K18 (ninS neS nin0))
  have Fh_20 := (Fh_7.keep K18 (ninS neS nin0))
  have Fn_21 := (Fn_8.keep K18 (ninS neS nin0))
  have Ex_23 := (Ex_11.keep K18)
  have V_aH_24 := (V_aH_5.keep K18 (ninS (Ne.symm neSH) nin0))
  have ZS18 : n0 ≤ h18.size := Nat.le_trans ZS5 K18.1
  have KC18 : Keep h0 h18 [a, aS, aH] := KC5.trans K18 (allS (Or.inl (List.mem_of_getElem? (i := 1) rfl)) all0)
  refine OGo.step (fun uK kK => st18 uK kK) ?_
  show OGo p e below _ (T18.setTop (mkF m 45 #[.val (.ref a), .val (.long s0_), .second, .val (.int (0 : Int32))] []))
  refine OGo.step (fun uK kK => XS.aloadN X18.here hx rfl (hb hby d10_45) rfl rfl kK) ?_
  show OGo p e below _ (T18.setTop (mkF m 46 #[.val (.ref a), .val (.long s0_), .second, .val (.int (0 : Int32))] [(.ref a)]))
  obtain ⟨T25, X25, e25, st25⟩ := getF X18 hx hZ hown (host := "") (Or.inl (hw _ (List.mem_of_getElem? (i := 18) rfl))) Via.refl e18 Fh_20 (g := (mkF m 46 #[.val (.ref a), .val (.long s0_), .second, .val (.int (0 : Int32))] [(.ref a)])) rfl rfl (hb hby d10_46)
  refine OGo.step (fun uK kK => st25 uK kK) ?_
  show OGo p e below _ (T25.setTop (mkF m 49 #[.val (.ref a), .val (.long s0_), .second, .val (.int (0 : Int32))] [(.ref aH)]))
  refine OGo.step (fun uK kK => XS.iloadN X25.here hx rfl (hb hby d10_49) rfl kK) ?_
  show OGo p e below _ (T25.setTop (mkF m 50 #[.val (.ref a), .val (.long s0_), .second, .val (.int (0 : Int32))] [(.int (0 : Int32)), (.ref aH)]))
  refine OGo.step (fun uK kK => XS.iconst X25.here hx rfl (hb hby d10_50) kK) ?_
  show OGo p e below _ (T25.setTop (mkF m 51 #[.val (.ref a), .val (.long s0_), .second, .val (.int (0 : Int32))] [(.int (1 : Int32)), (.int (0 : Int32)), (.ref aH)]))
  refine OGo.step (fun uK kK => XS.iadd X25.here hx rfl (hb hby d10_51) rfl kK) ?_
  show OGo p e below _ (T25.setTop (mkF m 52 #[.val (.ref a), .val (.long s0_), .second, .val (.int (0 : Int32))] [(.int ((0 : Int32) + (1 : Int32))), (.ref aH)]))
  have ez26 : ((0 : Int32) + (1 : Int32)) = (1 : Int32) := by decide
  rw [ez26]
  show OGo p e below _ (T25.setTop (mkF m 52 #[.val (.ref a), .val (.long s0_), .second, .val (.int (0 : Int32))] [(.int (1 : Int32)), (.ref aH)]))
  refine OGo.step (fun uK kK => XS.aloadN X25.here hx rfl (hb hby d10_52) rfl rfl kK) ?_
  show OGo p e below _ (T25.setTop (mkF m 53 #[.val (.ref a), .val (.long s0_), .second, .val (.int (0 : Int32))] [(.ref a), (.int (1 : Int32)), (.ref aH)]))
  obtain ⟨T27, X27, e27, st27⟩ := getF X25 hx hZ hown (host := "") (Or.inl (hw _ (List.mem_of_getElem? (i := 18) rfl))) Via.refl e25 Fh_20 (g := (mkF m 53 #[.val (.ref a), .val (.long s0_), .second, .val (.int (0 : Int32))] [(.ref a), (.int (1 : Int32)), (.ref aH)])) rfl rfl (hb hby d10_53)
  refine OGo.step (fun uK kK => st27 uK kK) ?_
  show OGo p e below _ (T27.setTop (mkF m 56 #[.val (.ref a), .val (.long s0_), .second, .val (.int (0 : Int32))] [(.ref aH), (.int (1 : Int32)), (.ref aH)]))
  refine OGo.step (fun uK kK => XS.iloadN X27.here hx rfl (hb hby d10_56) rfl kK) ?_
  show OGo p e below _ (T27.setTop (mkF m 57 #[.val (.ref a), .val (.long s0_), .second, .val (.int (0 : Int32))] [(.int (0 : Int32)), (.ref aH), (.int (1 : Int32)), (.ref aH)]))
  refine OGo.step (fun uK kK => XS.aloadN X27.here hx rfl (hb hby d10_57) rfl rfl kK) ?_
  show OGo p e below _ (T27.setTop (mkF m 58 #[.val (.ref a), .val (.long s0_), .second, .val (.int (0 : Int32))] [(.ref a), (.int (0 : Int32)), (.ref aH), (.int (1 : Int32)), (.ref aH)]))
  obtain ⟨T28, X28, e28, st28⟩ := getF X27 hx hZ hown (host := "") (Or.inl (hw _ (List.mem_of_getElem? (i := 29) rfl))) Via.refl e27 Fn_21 (g := (mkF m 58 #[.val (.ref a), .val (.long s0_), .second, .val (.int (0 : Int32))] [(.ref a), (.int (0 : Int32)), (.ref aH), (.int (1 : Int32)), (.ref aH)])) rfl rfl (hb hby d10_58)
  refine OGo.step (fun uK kK => st28 uK kK) ?_
  show OGo p e below _ (T28.setTop (mkF m 61 #[.val (.ref a), .val (.long s0_), .second, .val (.int (0 : Int32))] [(.int (2 : Int32)), (.int (0 : Int32)), (.ref aH), (.int (1 : Int32)), (.ref aH)]))
  refine OGo.step (fun uK kK => XS.iloadN X28.here hx rfl (hb hby d10_61) rfl kK) ?_
  show OGo p e below _ (T28.setTop (mkF m 62 #[.val (.ref a), .val (.long s0_), .second, .val (.int (0 : Int32))] [(.int (0 : Int32)), (.int (2 : Int32)), (.int (0 : Int32)), (.ref aH), (.int (1 : Int32)), (.ref aH)]))
  refine OGo.step (fun uK kK => XS.isub X28.here hx rfl (hb hby d10_62) rfl kK) ?_
  show OGo p e below _ (T28.setTop (mkF m 63 #[.val (.ref a), .val (.long s0_), .second, .val (.int (0 : Int32))] [(.int ((2 : Int32) - (0 : Int32))), (.int (0 : Int32)), (.ref aH), (.int (1 : Int32)), (.ref aH)]))
  have ez29 : ((2 : Int32) - (0 : Int32)) = (2 : Int32) := by decide
  rw [ez29]
  show OGo p e below _ (T28.setTop (mkF m 63 #[.val (.ref a), .val (.long s0_), .second, .val (.int (0 : Int32))] [(.int (2 : Int32)), (.int (0 : Int32)), (.ref aH), (.int (1 : Int32)), (.ref aH)]))
  refine OGo.step (fun uK kK => XS.iconst X28.here hx rfl (hb hby d10_63) kK) ?_
  show OGo p e below _ (T28.setTop (mkF m 64 #[.val (.ref a), .val (.long s0_), .second, .val (.int (0 : Int32))] [(.int (1 : Int32)), (.int (2 : Int32)), (.int (0 : Int32)), (.ref aH), (.int (1 : Int32)), (.ref aH)]))
  refine OGo.step (fun uK kK => XS.isub X28.here hx rfl (hb hby d10_64) rfl kK) ?_
  show OGo p e below _ (T28.setTop (mkF m 65 #[.val (.ref a), .val (.long s0_), .second, .val (.int (0 : Int32))] [(.int ((2 : Int32) - (1 : Int32))), (.int (0 : Int32)), (.ref aH), (.int (1 : Int32)), (.ref aH)]))
  have ez30 : ((2 : Int32) - (1 : Int32)) = (1 : Int32) := by decide
  rw [ez30]
  show OGo p e below _ (T28.setTop (mkF m 65 #[.val (.ref a), .val (.long s0_), .second, .val (.int (0 : Int32))] [(.int (1 : Int32)), (.int (0 : Int32)), (.ref aH), (.int (1 : Int32)), (.ref aH)]))
  obtain ⟨T31, h31, L31, X31, e31, N31, K31, V31, st31⟩ := cpA X28 hx hZ hown (hw _ (List.mem_of_getElem? (i := 41) rfl)) (hw _ (List.mem_of_getElem? (i := 44) rfl)) (hw _ (List.mem_of_getElem? (i := 42) rfl)) (hw _ (List.mem_of_getElem? (i := 43) rfl)) e28 (sp := (1 : Int32)) (dp := (0 : Int32)) (nn := (1 : Int32)) (us := [(.int (1 : Int32))]) V_aH_24 V_aH_24 (Or.inl ⟨rfl, rfl⟩) (by decide) (by decide) (by decide) (by decide) (by decide) rfl (Nat.le_of_ble_eq_true rfl) N18 gH (g := (mkF m 65 #[.val (.ref a), .val (.long s0_), .second, .val (.int (0 : Int32))] [(.int (1 : Int32)), (.int (0 : Int32)), (.ref aH), (.int (1 : Int32)), (.ref aH)])) rfl (by rw [hml]; rfl) rfl (hb hby d10_65) (by decide) (W := 0) (by show 2 * 0 + _ ≤ _; exact Nat.le_of_eq rfl) (by decide)
  have V_aH_31 : Arv Z h31 aH kH .int (8 : Int32) [(.int (1 : Int32)), (.int (1 : Int32)), (.int k2_), (.int k3_), (.int k4_), (.int k5_), (.int k6_), (.int k7_)] (.int (0 : Int32)) := V31
  have Fs_32 := (Fs_19.keep K31 (ninS neH nin0))
  have Fh_33 := (Fh_20.keep K31 (ninS neH nin0))
  have Fn_34 := (Fn_21.keep K31 (ninS neH nin0))
  have Ex_35 := (Ex_23.keep K31)
  have V_aS_37 := (V_aS_18.keep K31 (ninS neSH nin0))
  have ZS31 : n0 ≤ h31.size := Nat.le_trans ZS18 K31.1
  have KC31 : Keep h0 h31 [a, aS, aH] := KC18.trans K31 (allS (Or.inl (List.mem_of_getElem? (i := 2) rfl)) all0)
  refine OGo.step (fun uK kK => st31 uK kK) ?_
  show OGo p e below _ (T31.setTop (mkF m 68 #[.val (.ref a), .val (.long s0_), .second, .val (.int (0 : Int32))] []))
  refine OGo.step (fun uK kK => XS.aloadN X31.here hx rfl (hb hby d10_68) rfl rfl kK) ?_
  show OGo p e below _ (T31.setTop (mkF m 69 #[.val (.ref a), .val (.long s0_), .second, .val (.int (0 : Int32))] [(.ref a)]))
  refine OGo.step (fun uK kK => XS.dup X31.here hx rfl (hb hby d10_69) rfl rfl kK) ?_
  show OGo p e below _ (T31.setTop (mkF m 70 #[.val (.ref a), .val (.long s0_), .second, .val (.int (0 : Int32))] [(.ref a), (.ref a)]))
  obtain ⟨T38, X38, e38, st38⟩ := getF X31 hx hZ hown (host := "") (Or.inl (hw _ (List.mem_of_getElem? (i := 29) rfl))) Via.refl e31 Fn_34 (g := (mkF m 70 #[.val (.ref a), .val (.long s0_), .second, .val (.int (0 : Int32))] [(.ref a), (.ref a)])) rfl rfl (hb hby d10_70)
  refine OGo.step (fun uK kK => st38 uK kK) ?_
  show OGo p e below _ (T38.setTop (mkF m 73 #[.val (.ref a), .val (.long s0_), .second, .val (.int (0 : Int32))] [(.int (2 : Int32)), (.ref a)]))
  refine OGo.step (fun uK kK => XS.iconst X38.here hx rfl (hb hby d10_73) kK) ?_
  show OGo p e below _ (T38.setTop (mkF m 74 #[.val (.ref a), .val (.long s0_), .second, .val (.int (0 : Int32))] [(.int (1 : Int32)), (.int (2 : Int32)), (.ref a)]))
  refine OGo.step (fun uK kK => XS.isub X38.here hx rfl (hb hby d10_74) rfl kK) ?_
  show OGo p e below _ (T38.setTop (mkF m 75 #[.val (.ref a), .val (.long s0_), .second, .val (.int (0 : Int32))] [(.int ((2 : Int32) - (1 : Int32))), (.ref a)]))
  have ez39 : ((2 : Int32) - (1 : Int32)) = (1 : Int32) := by decide
  rw [ez39]
  show OGo p e below _ (T38.setTop (mkF m 75 #[.val (.ref a), .val (.long s0_), .second, .val (.int (0 : Int32))] [(.int (1 : Int32)), (.ref a)]))
  obtain ⟨T40, h40, X40, e40, W40, st40⟩ := putF X38 hx hZ hown (host := "") (Or.inl (hw _ (List.mem_of_getElem? (i := 29) rfl))) Via.refl e38 Fn_34 Ex_35 (Or.inl (hw _ (List.mem_of_getElem? (i := 30) rfl))) (hw _ (List.mem_of_getElem? (i := 6) rfl)) (ty := .int) (by decide) rfl rfl (g := (mkF m 75 #[.val (.ref a), .val (.long s0_), .second, .val (.int (0 : Int32))] [(.int (1 : Int32)), (.ref a)])) rfl rfl (hb hby d10_75)
  have Fw40 := Fn_34.same W40
  have Fs_41 := (Fs_32.other W40 (Or.inr (slot_ne (Or.inl (hw _ (List.mem_of_getElem? (i := 16) rfl))) (Or.inl (hw _ (List.mem_of_getElem? (i := 30) rfl))) (by decide) (t := (.array .long)) (t' := .int) (by decide) (by decide))))
  have Fh_42 := (Fh_33.other W40 (Or.inr (slot_ne (Or.inl (hw _ (List.mem_of_getElem? (i := 19) rfl))) (Or.inl (hw _ (List.mem_of_getElem? (i := 30) rfl))) (by decide) (t := (.array .int)) (t' := .int) (by decide) (by decide))))
  have Ex_44 := (Ex_35.wr W40)
  have V_aS_45 := (V_aS_37.other W40 (Ne.symm neS))
  have V_aH_46 := (V_aH_31.other W40 (Ne.symm neH))
  have ZS40 : n0 ≤ h40.size := Nat.le_trans ZS31 (Keep.of_wr W40).1
  have KC40 : Keep h0 h40 [a, aS, aH] := KC31.wr W40 (Or.inl (List.mem_of_getElem? (i := 0) rfl))
  have N40 := Fr.snoc X40 N31 ga
  refine OGo.step (fun uK kK => st40 uK kK) ?_
  show OGo p e below _ (T40.setTop (mkF m 78 #[.val (.ref a), .val (.long s0_), .second, .val (.int (0 : Int32))] []))
  refine OGo.step (fun uK kK => XS.iconst X40.here hx rfl (hb hby d10_78) kK) ?_
  show OGo p e below _ (T40.setTop (mkF m 79 #[.val (.ref a), .val (.long s0_), .second, .val (.int (0 : Int32))] [(.int (1 : Int32))]))
  exact OGo.retN X40 hx Bd.notSynchronized (t := .boolean) Bd.returns (by simp) (hb hby d10_79) (by decide) (by decide) (by show Qr3 Z a aS kS s0_ s1_ s2_ s3_ s4_ s5_ s6_ s7_ aH kH k0_ k1_ k2_ k3_ k4_ k5_ k6_ k7_ h0 n0 _ T40.heap _; rw [e40]; exact ⟨rfl, N40, KC40, Fs_41, Fh_42, Fw40, V_aS_45, V_aH_46⟩)
theorem pnr4 : plainName "com/example/graph_of_conflicts/graphofconflicts/engine/OpenSnapshots" = true := by first | (simp [plainName, overriddenIn]; done) | decide +kernel
theorem pdr4_0 : parseMethodDescriptor "(J)I" = some ⟨[.long], some .int⟩ := by decide +kernel
theorem efr4 (m : MethodId) (x0 : Addr) (x1 : Int64) : entryFrame m #[(.ref x0), (.long x1)] 4 = mkF m 0 #[.val (.ref x0), .val (.long x1), .second, .unset] [] := by first | (simp [entryFrame, mkF, argsToLocals, Value.category]; done) | rfl
def Qr4 (Z : State) (a : Addr) (aS : Addr) (kS : ClassId) (s0_ : Int64) (s1_ : Int64) (s2_ : Int64) (s3_ : Int64) (s4_ : Int64) (s5_ : Int64) (s6_ : Int64) (s7_ : Int64) (aH : Addr) (kH : ClassId) (k0_ : Int32) (k1_ : Int32) (k2_ : Int32) (k3_ : Int32) (k4_ : Int32) (k5_ : Int32) (k6_ : Int32) (k7_ : Int32) (h0 : Heap) (n0 : Nat) (v : Option Value) (h : Heap) (L : List Loc) : Prop := v = some (.int (1 : Int32)) ∧ Fr n0 L ∧ Keep h0 h [a, aS, aH] ∧ Fld Z h a "com/example/graph_of_conflicts/graphofconflicts/engine/OpenSnapshots" "snapshots" "[J" (.ref aS) ∧ Fld Z h a "com/example/graph_of_conflicts/graphofconflicts/engine/OpenSnapshots" "holders" "[I" (.ref aH) ∧ Fld Z h a "com/example/graph_of_conflicts/graphofconflicts/engine/OpenSnapshots" "size" "I" (.int (1 : Int32)) ∧ Arv Z h aS kS .long (8 : Int32) [(.long s0_), (.long s1_), (.long s2_), (.long s3_), (.long s4_), (.long s5_), (.long s6_), (.long s7_)] (.long (0 : Int64)) ∧ Arv Z h aH kH .int (8 : Int32) [(.int (1 : Int32)), (.int (0 : Int32)), (.int k2_), (.int k3_), (.int k4_), (.int k5_), (.int k6_), (.int k7_)] (.int (0 : Int32))
set_option maxRecDepth 65536 in
set_option maxHeartbeats 40000000 in
theorem rmr4 (l : Launch) (Z : State) (a0 : Array Value) (hw : ∀ d ∈ tables_1, d.before a0 Z = true) (ws : List Jvm.Cond) (a : Addr) (aS : Addr) (kS : ClassId) (s0_ : Int64) (s1_ : Int64) (s2_ : Int64) (s3_ : Int64) (s4_ : Int64) (s5_ : Int64) (s6_ : Int64) (s7_ : Int64) (aH : Addr) (kH : ClassId) (k0_ : Int32) (k1_ : Int32) (k2_ : Int32) (k3_ : Int32) (k4_ : Int32) (k5_ : Int32) (k6_ : Int32) (k7_ : Int32) (h0 : Heap) (n0 : Nat) (Z0 : n0 ≤ h0.size) (Fs : Fld Z h0 a "com/example/graph_of_conflicts/graphofconflicts/engine/OpenSnapshots" "snapshots" "[J" (.ref aS)) (Fh : Fld Z h0 a "com/example/graph_of_conflicts/graphofconflicts/engine/OpenSnapshots" "holders" "[I" (.ref aH)) (Fn : Fld Z h0 a "com/example/graph_of_conflicts/graphofconflicts/engine/OpenSnapshots" "size" "I" (.int (2 : Int32))) (Vs : Arv Z h0 aS kS .long (8 : Int32) [(.long s0_), (.long s1_), (.long s2_), (.long s3_), (.long s4_), (.long s5_), (.long s6_), (.long s7_)] (.long (0 : Int64))) (Vh : Arv Z h0 aH kH .int (8 : Int32) [(.int (1 : Int32)), (.int (1 : Int32)), (.int k2_), (.int k3_), (.int k4_), (.int k5_), (.int k6_), (.int k7_)] (.int (0 : Int32))) (Ex : Exa Z h0 a "com/example/graph_of_conflicts/graphofconflicts/engine/OpenSnapshots") (ga : n0 ≤ a) (gS : n0 ≤ aS) (gH : n0 ≤ aH) (neS : a ≠ aS) (neH : a ≠ aH) (neSH : aS ≠ aH) (hlt : s0_ < s1_) :
    MetFree l (⟨"com/example/graph_of_conflicts/graphofconflicts/engine/OpenSnapshots", "remove", "(J)Z"⟩ : MethodName) (head1 (Jvm.Cond.code (⟨"com/example/graph_of_conflicts/graphofconflicts/engine/OpenSnapshots", "remove", "(J)Z"⟩ : MethodName) prog_55_method_3_code 4 (some .boolean) :: ws) ({ frames := 3, cells := 0, slots := 0, locals := 63 } : Room)) (fun aQ UQ => aQ = #[(.ref a), (.long s1_)] ∧ Z.Warmed39 UQ.vm ∧ UQ.heap = h0) (fun _ _ _ _ _ => True) (fun _ U o U' => ∃ v L, o = .returned v ∧ Qr4 Z a aS kS s0_ s1_ s2_ s3_ s4_ s5_ s6_ s7_ aH kH k0_ k1_ k2_ k3_ k4_ k5_ k6_ k7_ h0 n0 v U'.heap L ∧ FrameEnd U o U' L ({ frames := 3, cells := 0, slots := 0, locals := 63 } : Room).cells ({ frames := 3, cells := 0, slots := 0, locals := 63 } : Room).slots) := by
  refine MetFree.of_bodySF (plainFor_of_name pnr4) hisR ?_
  intro p e s m args below meth c s₁ Bd hml0 hP hK
  obtain ⟨rfl, hZ, hh⟩ := hP
  have hx := Bd.exec
  have hby := Bd.bytes
  have hml : c.maxLocals = 4 := hml0
  have hown : s.vm.findClass "com/example/graph_of_conflicts/graphofconflicts/engine/OpenSnapshots" = some m.cls := findClass_of_methodNamed Bd.named
  have hnm := (name_of_methodNamed Bd.named Bd.method).1
  have X0 : Stand p l e ({ frames := 3, cells := 0, slots := 0, locals := 63 } : Room) s m #[(.ref a), (.long s1_)] below meth c s₁ [] 0 0 := Stand.of_body Bd
  have e0 : s₁.heap = h0 := by rw [← hh, Bd.state]; rfl
  have N0 := Fr.nil n0
  show OGo p e below (OPost s (Qr4 Z a aS kS s0_ s1_ s2_ s3_ s4_ s5_ s6_ s7_ aH kH k0_ k1_ k2_ k3_ k4_ k5_ k6_ k7_ h0 n0) ({ frames := 3, cells := 0, slots := 0, locals := 63 } : Room).cells ({ frames := 3, cells := 0, slots := 0, locals := 63 } : Room).slots) (s₁.setTop (entryFrame m #[(.ref a), (.long s1_)] 4))
  refine OGo.step (fun uK kK => castTop (efr4 m a s1_) kK) ?_
  show OGo p e below _ (s₁.setTop (mkF m 0 #[.val (.ref a), .val (.long s1_), .second, .unset] []))
  refine OGo.step (fun uK kK => XS.aloadN X0.here hx rfl (hb hby d10_0) rfl rfl kK) ?_
  show OGo p e below _ (s₁.setTop (mkF m 1 #[.val (.ref a), .val (.long s1_), .second, .unset] [(.ref a)]))
  refine OGo.step (fun uK kK => XS.lloadN X0.here hx rfl (hb hby d10_1) rfl kK) ?_
  show OGo p e below _ (s₁.setTop (mkF m 2 #[.val (.ref a), .val (.long s1_), .second, .unset] [(.long s1_), (.ref a)]))
  obtain ⟨cq1, qc1, qd1⟩ := Ex.cell
  obtain ⟨_, _, ⟨T1, Lq1, kq_1, nq_1⟩, -, X1, ⟨Lc1, hQ1, lq1, yq1, zq1⟩, st1⟩ := X0.privateBack hx (y := (⟨"com/example/graph_of_conflicts/graphofconflicts/engine/OpenSnapshots", "indexOf", "(J)I"⟩ : MethodName)) hown (mvT hZ (hw _ (List.mem_of_getElem? (i := 25) rfl))) (mvT hZ (hw _ (List.mem_of_getElem? (i := 26) rfl))) (own_selP (mvT hZ (hw _ (List.mem_of_getElem? (i := 6) rfl))) (mvP hZ (hw _ (List.mem_of_getElem? (i := 27) rfl))) (mvT hZ (hw _ (List.mem_of_getElem? (i := 26) rfl))) (by decide)) (Cond.privateMethod_at (mvP hZ (hw _ (List.mem_of_getElem? (i := 27) rfl)) (args := #[]))) (mvT hZ (hw _ (List.mem_of_getElem? (i := 28) rfl))) (by decide) (backOf (W := 0) (rmx_t1 l Z a0 hw [] a aS kS s0_ s1_ s2_ s3_ s4_ s5_ s6_ s7_ h0 n0 Z0 Fs Fn Vs hlt) hZ (hw _ (List.mem_of_getElem? (i := 28) rfl)) (hw _ (List.mem_of_getElem? (i := 7) rfl)) (by decide) (by decide)) (g := (mkF m 2 #[.val (.ref a), .val (.long s1_), .second, .unset] [(.long s1_), (.ref a)])) rfl (by rw [hml]; rfl) (Steps.refl _) (a := a) (by rw [e0]; exact qc1) qd1 (argsL := [(.long s1_)]) (rest := []) (lenOf pdr4_0 rfl) rfl (by show 2 * 0 + _ ≤ _; exact Nat.le_of_eq rfl) (hb hby d10_2) (fun _ _ => ⟨rfl, e0, (by decide : 0 + 0 ≤ _), (by decide : 0 + 0 ≤ _)⟩)
  dsimp only [Pt.U, Pt.locs, Pt.cells, Pt.slots] at X1 lq1 yq1 zq1 st1 hQ1
  subst lq1 yq1 zq1
  obtain ⟨rfl, Nq1, e1⟩ := hQ1
  have N1 := Fr.app N0 Nq1
  refine OGo.steps st1 ?_
  show OGo p e below _ (T1.setTop (mkF m 5 #[.val (.ref a), .val (.long s1_), .second, .unset] [(.int (1 : Int32))]))
  refine OGo.step (fun uK kK => XS.istoreN X1.here hx rfl (hb hby d10_5) rfl (l' := #[.val (.ref a), .val (.long s1_), .second, .val (.int (1 : Int32))]) rfl kK) ?_
  show OGo p e below _ (T1.setTop (mkF m 6 #[.val (.ref a), .val (.long s1_), .second, .val (.int (1 : Int32))] []))
  refine OGo.step (fun uK kK => XS.aloadN X1.here hx rfl (hb hby d10_6) rfl rfl kK) ?_
  show OGo p e below _ (T1.setTop (mkF m 7 #[.val (.ref a), .val (.long s1_), .second, .val (.int (1 : Int32))] [(.ref a)]))
  obtain ⟨T2, X2, e2, st2⟩ := getF X1 hx hZ hown (host := "") (Or.inl (hw _ (List.mem_of_getElem? (i := 18) rfl))) Via.refl e1 Fh (g := (mkF m 7 #[.val (.ref a), .val (.long s1_), .second, .val (.int (1 : Int32))] [(.ref a)])) rfl rfl (hb hby d10_7)
  refine OGo.step (fun uK kK => st2 uK kK) ?_
  show OGo p e below _ (T2.setTop (mkF m 10 #[.val (.ref a), .val (.long s1_), .second, .val (.int (1 : Int32))] [(.ref aH)]))
  refine OGo.step (fun uK kK => XS.iloadN X2.here hx rfl (hb hby d10_10) rfl kK) ?_
  show OGo p e below _ (T2.setTop (mkF m 11 #[.val (.ref a), .val (.long s1_), .second, .val (.int (1 : Int32))] [(.int (1 : Int32)), (.ref aH)]))
  refine OGo.step (t' := T2.setTop (mkF m 12 #[.val (.ref a), .val (.long s1_), .second, .val (.int (1 : Int32))] [(.int (1 : Int32)), (.ref aH), (.int (1 : Int32)), (.ref aH)])) (fun uK kK => ?_) ?_
  · show Steps p.tables e below (T2.setTop (mkF m 11 #[.val (.ref a), .val (.long s1_), .second, .val (.int (1 : Int32))] [(.int (1 : Int32)), (.ref aH)])) _
    jvm_step X2.here [X2.here.top, hx, (hb hby d10_11), Value.category]
    exact kK
  show OGo p e below _ (T2.setTop (mkF m 12 #[.val (.ref a), .val (.long s1_), .second, .val (.int (1 : Int32))] [(.int (1 : Int32)), (.ref aH), (.int (1 : Int32)), (.ref aH)]))
  obtain ⟨cl3, Ar3, q3, S3, M3, H3, G3⟩ := id Vh
  have hin3 : ¬ ((1 : Int32) < 0 ∨ cl3.slots.size ≤ ((1 : Int32)).toNatClampNeg) := inb_of S3 ⟨by decide, by decide⟩
  have hat3 : cl3.slots[((1 : Int32)).toNatClampNeg]? = some (.int (1 : Int32)) := H3.at hin3 rfl
  refine OGo.step (fun uK kK => X2.iaload hx (j := (1 : Int32)) (v := (.int (1 : Int32))) (by rw [e2]; exact Ar3.1) (State.isArrayOf_alike hZ.alike Ar3.2.1) Ar3.2.2 hin3 hat3 (g := (mkF m 12 #[.val (.ref a), .val (.long s1_), .second, .val (.int (1 : Int32))] [(.int (1 : Int32)), (.ref aH), (.int (1 : Int32)), (.ref aH)])) rfl rfl (hb hby d10_12) uK kK) ?_
  show OGo p e below _ (T2.setTop (mkF m 13 #[.val (.ref a), .val (.long s1_), .second, .val (.int (1 : Int32))] [(.int (1 : Int32)), (.int (1 : Int32)), (.ref aH)]))
  refine OGo.step (fun uK kK => XS.iconst X2.here hx rfl (hb hby d10_13) kK) ?_
  show OGo p e below _ (T2.setTop (mkF m 14 #[.val (.ref a), .val (.long s1_), .second, .val (.int (1 : Int32))] [(.int (1 : Int32)), (.int (1 : Int32)), (.int (1 : Int32)), (.ref aH)]))
  refine OGo.step (fun uK kK => XS.isub X2.here hx rfl (hb hby d10_14) rfl kK) ?_
  show OGo p e below _ (T2.setTop (mkF m 15 #[.val (.ref a), .val (.long s1_), .second, .val (.int (1 : Int32))] [(.int ((1 : Int32) - (1 : Int32))), (.int (1 : Int32)), (.ref aH)]))
  have ez4 : ((1 : Int32) - (1 : Int32)) = (0 : Int32) := by decide
  rw [ez4]
  show OGo p e below _ (T2.setTop (mkF m 15 #[.val (.ref a), .val (.long s1_), .second, .val (.int (1 : Int32))] [(.int (0 : Int32)), (.int (1 : Int32)), (.ref aH)]))
  refine OGo.step (t' := T2.setTop (mkF m 16 #[.val (.ref a), .val (.long s1_), .second, .val (.int (1 : Int32))] [(.int (0 : Int32)), (.int (1 : Int32)), (.ref aH), (.int (0 : Int32))])) (fun uK kK => ?_) ?_
  · show Steps p.tables e below (T2.setTop (mkF m 15 #[.val (.ref a), .val (.long s1_), .second, .val (.int (1 : Int32))] [(.int (0 : Int32)), (.int (1 : Int32)), (.ref aH)])) _
    jvm_step X2.here [X2.here.top, hx, (hb hby d10_15), Value.category]
    exact kK
  show OGo p e below _ (T2.setTop (mkF m 16 #[.val (.ref a), .val (.long s1_), .second, .val (.int (1 : Int32))] [(.int (0 : Int32)), (.int (1 : Int32)), (.ref aH), (.int (0 : Int32))]))
  obtain ⟨cl5, Ar5, q5, S5, M5, H5, G5⟩ := id Vh
  have hin5 : ¬ ((1 : Int32) < 0 ∨ cl5.slots.size ≤ ((1 : Int32)).toNatClampNeg) := inb_of S5 ⟨by decide, by decide⟩
  obtain ⟨T5, h5, X5, e5, W5, st5⟩ := stI X2 hx hZ e2 Ar5 (j := (1 : Int32)) hin5 (g := (mkF m 16 #[.val (.ref a), .val (.long s1_), .second, .val (.int (1 : Int32))] [(.int (0 : Int32)), (.int (1 : Int32)), (.ref aH), (.int (0 : Int32))])) rfl rfl (hb hby d10_16)
  have V_aH_5 : Arv Z h5 aH kH .int (8 : Int32) [(.int (1 : Int32)), (.int (0 : Int32)), (.int k2_), (.int k3_), (.int k4_), (.int k5_), (.int k6_), (.int k7_)] (.int (0 : Int32)) := Arv.set Ar5 q5 S5 M5 H5 G5 rfl W5 1 rfl (Nat.le_of_ble_eq_true rfl)
  have Fs_6 := (Fs.other W5 (Or.inl neH))
  have Fh_7 := (Fh.other W5 (Or.inl neH))
  have Fn_8 := (Fn.other W5 (Or.inl neH))
  have Vs_9 := (Vs.other W5 neSH)
  have Ex_11 := (Ex.wr W5)
  have ZS5 : n0 ≤ h5.size := Nat.le_trans Z0 (Keep.of_wr W5).1
  have KC5 : Keep h0 h5 [a, aS, aH] := (Keep.refl h0 [a, aS, aH]).wr W5 (Or.inl (List.mem_of_getElem? (i := 2) rfl))
  have N5 := Fr.snoc X5 N1 gH
  refine OGo.step (fun uK kK => st5 uK kK) ?_
  show OGo p e below _ (T5.setTop (mkF m 17 #[.val (.ref a), .val (.long s1_), .second, .val (.int (1 : Int32))] [(.int (0 : Int32))]))
  have hc17 : ¬ ((0 : Int32) < (0 : Int32)) := by decide
  refine OGo.step (fun uK kK => XS.ifYes X5.here hx rfl (pc0 := 17) (pc' := 22) rfl (hb hby d10_17) rfl ((if0 _ _).trans (flt hc17).2.2.2) (by decide) (by decide) kK) ?_
  show OGo p e below _ (T5.setTop (mkF m 22 #[.val (.ref a), .val (.long s1_), .second, .val (.int (1 : Int32))] []))
  refine OGo.step (fun uK kK => XS.aloadN X5.here hx rfl (hb hby d10_22) rfl rfl kK) ?_
  show OGo p e below _ (T5.setTop (mkF m 23 #[.val (.ref a), .val (.long s1_), .second, .val (.int (1 : Int32))] [(.ref a)]))
  obtain ⟨T12, X12, e12, st12⟩ := getF X5 hx hZ hown (host := "") (Or.inl (hw _ (List.mem_of_getElem? (i := 15) rfl))) Via.refl e5 Fs_6 (g := (mkF m 23 #[.val (.ref a), .val (.long s1_), .second, .val (.int (1 : Int32))] [(.ref a)])) rfl rfl (hb hby d10_23)
  refine OGo.step (fun uK kK => st12 uK kK) ?_
  show OGo p e below _ (T12.setTop (mkF m 26 #[.val (.ref a), .val (.long s1_), .second, .val (.int (1 : Int32))] [(.ref aS)]))
  refine OGo.step (fun uK kK => XS.iloadN X12.here hx rfl (hb hby d10_26) rfl kK) ?_
  show OGo p e below _ (T12.setTop (mkF m 27 #[.val (.ref a), .val (.long s1_), .second, .val (.int (1 : Int32))] [(.int (1 : Int32)), (.ref aS)]))
  refine OGo.step (fun uK kK => XS.iconst X12.here hx rfl (hb hby d10_27) kK) ?_
  show OGo p e below _ (T12.setTop (mkF m 28 #[.val (.ref a), .val (.long s1_), .second, .val (.int (1 : Int32))] [(.int (1 : Int32)), (.int (1 : Int32)), (.ref aS)]))
  refine OGo.step (fun uK kK => XS.iadd X12.here hx rfl (hb hby d10_28) rfl kK) ?_
  show OGo p e below _ (T12.setTop (mkF m 29 #[.val (.ref a), .val (.long s1_), .second, .val (.int (1 : Int32))] [(.int ((1 : Int32) + (1 : Int32))), (.ref aS)]))
  have ez13 : ((1 : Int32) + (1 : Int32)) = (2 : Int32) := by decide
  rw [ez13]
  show OGo p e below _ (T12.setTop (mkF m 29 #[.val (.ref a), .val (.long s1_), .second, .val (.int (1 : Int32))] [(.int (2 : Int32)), (.ref aS)]))
  refine OGo.step (fun uK kK => XS.aloadN X12.here hx rfl (hb hby d10_29) rfl rfl kK) ?_
  show OGo p e below _ (T12.setTop (mkF m 30 #[.val (.ref a), .val (.long s1_), .second, .val (.int (1 : Int32))] [(.ref a), (.int (2 : Int32)), (.ref aS)]))
  obtain ⟨T14, X14, e14, st14⟩ := getF X12 hx hZ hown (host := "") (Or.inl (hw _ (List.mem_of_getElem? (i := 15) rfl))) Via.refl e12 Fs_6 (g := (mkF m 30 #[.val (.ref a), .val (.long s1_), .second, .val (.int (1 : Int32))] [(.ref a), (.int (2 : Int32)), (.ref aS)])) rfl rfl (hb hby d10_30)
  refine OGo.step (fun uK kK => st14 uK kK) ?_
  show OGo p e below _ (T14.setTop (mkF m 33 #[.val (.ref a), .val (.long s1_), .second, .val (.int (1 : Int32))] [(.ref aS), (.int (2 : Int32)), (.ref aS)]))
  refine OGo.step (fun uK kK => XS.iloadN X14.here hx rfl (hb hby d10_33) rfl kK) ?_
  show OGo p e below _ (T14.setTop (mkF m 34 #[.val (.ref a), .val (.long s1_), .second, .val (.int (1 : Int32))] [(.int (1 : Int32)), (.ref aS), (.int (2 : Int32)), (.ref aS)]))
  refine OGo.step (fun uK kK => XS.aloadN X14.here hx rfl (hb hby d10_34) rfl rfl kK) ?_
  show OGo p e below _ (T14.setTop (mkF m 35 #[.val (.ref a), .val (.long s1_), .second, .val (.int (1 : Int32))] [(.ref a), (.int (1 : Int32)), (.ref aS), (.int (2 : Int32)), (.ref aS)]))
  obtain ⟨T15, X15, e15, st15⟩ := getF X14 hx hZ hown (host := "") (Or.inl (hw _ (List.mem_of_getElem? (i := 29) rfl))) Via.refl e14 Fn_8 (g := (mkF m 35 #[.val (.ref a), .val (.long s1_), .second, .val (.int (1 : Int32))] [(.ref a), (.int (1 : Int32)), (.ref aS), (.int (2 : Int32)), (.ref aS)])) rfl rfl (hb hby d10_35)
  refine OGo.step (fun uK kK => st15 uK kK) ?_
  show OGo p e below _ (T15.setTop (mkF m 38 #[.val (.ref a), .val (.long s1_), .second, .val (.int (1 : Int32))] [(.int (2 : Int32)), (.int (1 : Int32)), (.ref aS), (.int (2 : Int32)), (.ref aS)]))
  refine OGo.step (fun uK kK => XS.iloadN X15.here hx rfl (hb hby d10_38) rfl kK) ?_
  show OGo p e below _ (T15.setTop (mkF m 39 #[.val (.ref a), .val (.long s1_), .second, .val (.int (1 : Int32))] [(.int (1 : Int32)), (.int (2 : Int32)), (.int (1 : Int32)), (.ref aS), (.int (2 : Int32)), (.ref aS)]))
  refine OGo.step (fun uK kK => XS.isub X15.here hx rfl (hb hby d10_39) rfl kK) ?_
  show OGo p e below _ (T15.setTop (mkF m 40 #[.val (.ref a), .val (.long s1_), .second, .val (.int (1 : Int32))] [(.int ((2 : Int32) - (1 : Int32))), (.int (1 : Int32)), (.ref aS), (.int (2 : Int32)), (.ref aS)]))
  have ez16 : ((2 : Int32) - (1 : Int32)) = (1 : Int32) := by decide
  rw [ez16]
  show OGo p e below _ (T15.setTop (mkF m 40 #[.val (.ref a), .val (.long s1_), .second, .val (.int (1 : Int32))] [(.int (1 : Int32)), (.int (1 : Int32)), (.ref aS), (.int (2 : Int32)), (.ref aS)]))
  refine OGo.step (fun uK kK => XS.iconst X15.here hx rfl (hb hby d10_40) kK) ?_
  show OGo p e below _ (T15.setTop (mkF m 41 #[.val (.ref a), .val (.long s1_), .second, .val (.int (1 : Int32))] [(.int (1 : Int32)), (.int (1 : Int32)), (.int (1 : Int32)), (.ref aS), (.int (2 : Int32)), (.ref aS)]))
  refine OGo.step (fun uK kK => XS.isub X15.here hx rfl (hb hby d10_41) rfl kK) ?_
  show OGo p e below _ (T15.setTop (mkF m 42 #[.val (.ref a), .val (.long s1_), .second, .val (.int (1 : Int32))] [(.int ((1 : Int32) - (1 : Int32))), (.int (1 : Int32)), (.ref aS), (.int (2 : Int32)), (.ref aS)]))
  have ez17 : ((1 : Int32) - (1 : Int32)) = (0 : Int32) := by decide
  rw [ez17]
  show OGo p e below _ (T15.setTop (mkF m 42 #[.val (.ref a), .val (.long s1_), .second, .val (.int (1 : Int32))] [(.int (0 : Int32)), (.int (1 : Int32)), (.ref aS), (.int (2 : Int32)), (.ref aS)]))
  obtain ⟨T18, h18, L18, X18, e18, N18, K18, V18, st18⟩ := cpA X15 hx hZ hown (hw _ (List.mem_of_getElem? (i := 41) rfl)) (hw _ (List.mem_of_getElem? (i := 44) rfl)) (hw _ (List.mem_of_getElem? (i := 42) rfl)) (hw _ (List.mem_of_getElem? (i := 43) rfl)) e15 (sp := (2 : Int32)) (dp := (1 : Int32)) (nn := (0 : Int32)) (us := []) Vs_9 Vs_9 (Or.inl ⟨rfl, rfl⟩) (by decide) (by decide) (by decide) (by decide) (by decide) rfl (Nat.le_of_ble_eq_true rfl) N5 gS (g := (mkF m 42 #[.val (.ref a), .val (.long s1_), .second, .val (.int (1 : Int32))] [(.int (0 : Int32)), (.int (1 : Int32)), (.ref aS), (.int (2 : Int32)), (.ref aS)])) rfl (by rw [hml]; rfl) rfl (hb hby d10_42) (by decide) (W := 0) (by show 2 * 0 + _ ≤ _; exact Nat.le_of_eq rfl) (by decide)
  have V_aS_18 : Arv Z h18 aS kS .long (8 : Int32) [(.long s0_), (.long s1_), (.long s2_), (.long s3_), (.long s4_), (.long s5_), (.long s6_), (.long s7_)] (.long (0 : Int64)) := V18
  have Fs_19 := (Fs_6.keep K18 (ninS neS nin0))
  have Fh_20 := (Fh_7.keep K18 (ninS neS nin0))
  have Fn_21 := (Fn_8.keep K18 (ninS neS nin0))
  have Ex_23 := (Ex_11.keep K18)
  have V_aH_24 := (V_aH_5.keep K18 (ninS (Ne.symm neSH) nin0))
  have ZS18 : n0 ≤ h18.size := Nat.le_trans ZS5 K18.1
  have KC18 : Keep h0 h18 [a, aS, aH] := KC5.trans K18 (allS (Or.inl (List.mem_of_getElem? (i := 1) rfl)) all0)
  refine OGo.step (fun uK kK => st18 uK kK) ?_
  show OGo p e below _ (T18.setTop (mkF m 45 #[.val (.ref a), .val (.long s1_), .second, .val (.int (1 : Int32))] []))
  refine OGo.step (fun uK kK => XS.aloadN X18.here hx rfl (hb hby d10_45) rfl rfl kK) ?_
  show OGo p e below _ (T18.setTop (mkF m 46 #[.val (.ref a), .val (.long s1_), .second, .val (.int (1 : Int32))] [(.ref a)]))
  obtain ⟨T25, X25, e25, st25⟩ := getF X18 hx hZ hown (host := "") (Or.inl (hw _ (List.mem_of_getElem? (i := 18) rfl))) Via.refl e18 Fh_20 (g := (mkF m 46 #[.val (.ref a), .val (.long s1_), .second, .val (.int (1 : Int32))] [(.ref a)])) rfl rfl (hb hby d10_46)
  refine OGo.step (fun uK kK => st25 uK kK) ?_
  show OGo p e below _ (T25.setTop (mkF m 49 #[.val (.ref a), .val (.long s1_), .second, .val (.int (1 : Int32))] [(.ref aH)]))
  refine OGo.step (fun uK kK => XS.iloadN X25.here hx rfl (hb hby d10_49) rfl kK) ?_
  show OGo p e below _ (T25.setTop (mkF m 50 #[.val (.ref a), .val (.long s1_), .second, .val (.int (1 : Int32))] [(.int (1 : Int32)), (.ref aH)]))
  refine OGo.step (fun uK kK => XS.iconst X25.here hx rfl (hb hby d10_50) kK) ?_
  show OGo p e below _ (T25.setTop (mkF m 51 #[.val (.ref a), .val (.long s1_), .second, .val (.int (1 : Int32))] [(.int (1 : Int32)), (.int (1 : Int32)), (.ref aH)]))
  refine OGo.step (fun uK kK => XS.iadd X25.here hx rfl (hb hby d10_51) rfl kK) ?_
  show OGo p e below _ (T25.setTop (mkF m 52 #[.val (.ref a), .val (.long s1_), .second, .val (.int (1 : Int32))] [(.int ((1 : Int32) + (1 : Int32))), (.ref aH)]))
  have ez26 : ((1 : Int32) + (1 : Int32)) = (2 : Int32) := by decide
  rw [ez26]
  show OGo p e below _ (T25.setTop (mkF m 52 #[.val (.ref a), .val (.long s1_), .second, .val (.int (1 : Int32))] [(.int (2 : Int32)), (.ref aH)]))
  refine OGo.step (fun uK kK => XS.aloadN X25.here hx rfl (hb hby d10_52) rfl rfl kK) ?_
  show OGo p e below _ (T25.setTop (mkF m 53 #[.val (.ref a), .val (.long s1_), .second, .val (.int (1 : Int32))] [(.ref a), (.int (2 : Int32)), (.ref aH)]))
  obtain ⟨T27, X27, e27, st27⟩ := getF X25 hx hZ hown (host := "") (Or.inl (hw _ (List.mem_of_getElem? (i := 18) rfl))) Via.refl e25 Fh_20 (g := (mkF m 53 #[.val (.ref a), .val (.long s1_), .second, .val (.int (1 : Int32))] [(.ref a), (.int (2 : Int32)), (.ref aH)])) rfl rfl (hb hby d10_53)
  refine OGo.step (fun uK kK => st27 uK kK) ?_
  show OGo p e below _ (T27.setTop (mkF m 56 #[.val (.ref a), .val (.long s1_), .second, .val (.int (1 : Int32))] [(.ref aH), (.int (2 : Int32)), (.ref aH)]))
  refine OGo.step (fun uK kK => XS.iloadN X27.here hx rfl (hb hby d10_56) rfl kK) ?_
  show OGo p e below _ (T27.setTop (mkF m 57 #[.val (.ref a), .val (.long s1_), .second, .val (.int (1 : Int32))] [(.int (1 : Int32)), (.ref aH), (.int (2 : Int32)), (.ref aH)]))
  refine OGo.step (fun uK kK => XS.aloadN X27.here hx rfl (hb hby d10_57) rfl rfl kK) ?_
  show OGo p e below _ (T27.setTop (mkF m 58 #[.val (.ref a), .val (.long s1_), .second, .val (.int (1 : Int32))] [(.ref a), (.int (1 : Int32)), (.ref aH), (.int (2 : Int32)), (.ref aH)]))
  obtain ⟨T28, X28, e28, st28⟩ := getF X27 hx hZ hown (host := "") (Or.inl (hw _ (List.mem_of_getElem? (i := 29) rfl))) Via.refl e27 Fn_21 (g := (mkF m 58 #[.val (.ref a), .val (.long s1_), .second, .val (.int (1 : Int32))] [(.ref a), (.int (1 : Int32)), (.ref aH), (.int (2 : Int32)), (.ref aH)])) rfl rfl (hb hby d10_58)
  refine OGo.step (fun uK kK => st28 uK kK) ?_
  show OGo p e below _ (T28.setTop (mkF m 61 #[.val (.ref a), .val (.long s1_), .second, .val (.int (1 : Int32))] [(.int (2 : Int32)), (.int (1 : Int32)), (.ref aH), (.int (2 : Int32)), (.ref aH)]))
  refine OGo.step (fun uK kK => XS.iloadN X28.here hx rfl (hb hby d10_61) rfl kK) ?_
  show OGo p e below _ (T28.setTop (mkF m 62 #[.val (.ref a), .val (.long s1_), .second, .val (.int (1 : Int32))] [(.int (1 : Int32)), (.int (2 : Int32)), (.int (1 : Int32)), (.ref aH), (.int (2 : Int32)), (.ref aH)]))
  refine OGo.step (fun uK kK => XS.isub X28.here hx rfl (hb hby d10_62) rfl kK) ?_
  show OGo p e below _ (T28.setTop (mkF m 63 #[.val (.ref a), .val (.long s1_), .second, .val (.int (1 : Int32))] [(.int ((2 : Int32) - (1 : Int32))), (.int (1 : Int32)), (.ref aH), (.int (2 : Int32)), (.ref aH)]))
  have ez29 : ((2 : Int32) - (1 : Int32)) = (1 : Int32) := by decide
  rw [ez29]
  show OGo p e below _ (T28.setTop (mkF m 63 #[.val (.ref a), .val (.long s1_), .second, .val (.int (1 : Int32))] [(.int (1 : Int32)), (.int (1 : Int32)), (.ref aH), (.int (2 : Int32)), (.ref aH)]))
  refine OGo.step (fun uK kK => XS.iconst X28.here hx rfl (hb hby d10_63) kK) ?_
  show OGo p e below _ (T28.setTop (mkF m 64 #[.val (.ref a), .val (.long s1_), .second, .val (.int (1 : Int32))] [(.int (1 : Int32)), (.int (1 : Int32)), (.int (1 : Int32)), (.ref aH), (.int (2 : Int32)), (.ref aH)]))
  refine OGo.step (fun uK kK => XS.isub X28.here hx rfl (hb hby d10_64) rfl kK) ?_
  show OGo p e below _ (T28.setTop (mkF m 65 #[.val (.ref a), .val (.long s1_), .second, .val (.int (1 : Int32))] [(.int ((1 : Int32) - (1 : Int32))), (.int (1 : Int32)), (.ref aH), (.int (2 : Int32)), (.ref aH)]))
  have ez30 : ((1 : Int32) - (1 : Int32)) = (0 : Int32) := by decide
  rw [ez30]
  show OGo p e below _ (T28.setTop (mkF m 65 #[.val (.ref a), .val (.long s1_), .second, .val (.int (1 : Int32))] [(.int (0 : Int32)), (.int (1 : Int32)), (.ref aH), (.int (2 : Int32)), (.ref aH)]))
  obtain ⟨T31, h31, L31, X31, e31, N31, K31, V31, st31⟩ := cpA X28 hx hZ hown (hw _ (List.mem_of_getElem? (i := 41) rfl)) (hw _ (List.mem_of_getElem? (i := 44) rfl)) (hw _ (List.mem_of_getElem? (i := 42) rfl)) (hw _ (List.mem_of_getElem? (i := 43) rfl)) e28 (sp := (2 : Int32)) (dp := (1 : Int32)) (nn := (0 : Int32)) (us := []) V_aH_24 V_aH_24 (Or.inl ⟨rfl, rfl⟩) (by decide) (by decide) (by decide) (by decide) (by decide) rfl (Nat.le_of_ble_eq_true rfl) N18 gH (g := (mkF m 65 #[.val (.ref a), .val (.long s1_), .second, .val (.int (1 : Int32))] [(.int (0 : Int32)), (.int (1 : Int32)), (.ref aH), (.int (2 : Int32)), (.ref aH)])) rfl (by rw [hml]; rfl) rfl (hb hby d10_65) (by decide) (W := 0) (by show 2 * 0 + _ ≤ _; exact Nat.le_of_eq rfl) (by decide)
  have V_aH_31 : Arv Z h31 aH kH .int (8 : Int32) [(.int (1 : Int32)), (.int (0 : Int32)), (.int k2_), (.int k3_), (.int k4_), (.int k5_), (.int k6_), (.int k7_)] (.int (0 : Int32)) := V31
  have Fs_32 := (Fs_19.keep K31 (ninS neH nin0))
  have Fh_33 := (Fh_20.keep K31 (ninS neH nin0))
  have Fn_34 := (Fn_21.keep K31 (ninS neH nin0))
  have Ex_35 := (Ex_23.keep K31)
  have V_aS_37 := (V_aS_18.keep K31 (ninS neSH nin0))
  have ZS31 : n0 ≤ h31.size := Nat.le_trans ZS18 K31.1
  have KC31 : Keep h0 h31 [a, aS, aH] := KC18.trans K31 (allS (Or.inl (List.mem_of_getElem? (i := 2) rfl)) all0)
  refine OGo.step (fun uK kK => st31 uK kK) ?_
  show OGo p e below _ (T31.setTop (mkF m 68 #[.val (.ref a), .val (.long s1_), .second, .val (.int (1 : Int32))] []))
  refine OGo.step (fun uK kK => XS.aloadN X31.here hx rfl (hb hby d10_68) rfl rfl kK) ?_
  show OGo p e below _ (T31.setTop (mkF m 69 #[.val (.ref a), .val (.long s1_), .second, .val (.int (1 : Int32))] [(.ref a)]))
  refine OGo.step (fun uK kK => XS.dup X31.here hx rfl (hb hby d10_69) rfl rfl kK) ?_
  show OGo p e below _ (T31.setTop (mkF m 70 #[.val (.ref a), .val (.long s1_), .second, .val (.int (1 : Int32))] [(.ref a), (.ref a)]))
  obtain ⟨T38, X38, e38, st38⟩ := getF X31 hx hZ hown (host := "") (Or.inl (hw _ (List.mem_of_getElem? (i := 29) rfl))) Via.refl e31 Fn_34 (g := (mkF m 70 #[.val (.ref a), .val (.long s1_), .second, .val (.int (1 : Int32))] [(.ref a), (.ref a)])) rfl rfl (hb hby d10_70)
  refine OGo.step (fun uK kK => st38 uK kK) ?_
  show OGo p e below _ (T38.setTop (mkF m 73 #[.val (.ref a), .val (.long s1_), .second, .val (.int (1 : Int32))] [(.int (2 : Int32)), (.ref a)]))
  refine OGo.step (fun uK kK => XS.iconst X38.here hx rfl (hb hby d10_73) kK) ?_
  show OGo p e below _ (T38.setTop (mkF m 74 #[.val (.ref a), .val (.long s1_), .second, .val (.int (1 : Int32))] [(.int (1 : Int32)), (.int (2 : Int32)), (.ref a)]))
  refine OGo.step (fun uK kK => XS.isub X38.here hx rfl (hb hby d10_74) rfl kK) ?_
  show OGo p e below _ (T38.setTop (mkF m 75 #[.val (.ref a), .val (.long s1_), .second, .val (.int (1 : Int32))] [(.int ((2 : Int32) - (1 : Int32))), (.ref a)]))
  have ez39 : ((2 : Int32) - (1 : Int32)) = (1 : Int32) := by decide
  rw [ez39]
  show OGo p e below _ (T38.setTop (mkF m 75 #[.val (.ref a), .val (.long s1_), .second, .val (.int (1 : Int32))] [(.int (1 : Int32)), (.ref a)]))
  obtain ⟨T40, h40, X40, e40, W40, st40⟩ := putF X38 hx hZ hown (host := "") (Or.inl (hw _ (List.mem_of_getElem? (i := 29) rfl))) Via.refl e38 Fn_34 Ex_35 (Or.inl (hw _ (List.mem_of_getElem? (i := 30) rfl))) (hw _ (List.mem_of_getElem? (i := 6) rfl)) (ty := .int) (by decide) rfl rfl (g := (mkF m 75 #[.val (.ref a), .val (.long s1_), .second, .val (.int (1 : Int32))] [(.int (1 : Int32)), (.ref a)])) rfl rfl (hb hby d10_75)
  have Fw40 := Fn_34.same W40
  have Fs_41 := (Fs_32.other W40 (Or.inr (slot_ne (Or.inl (hw _ (List.mem_of_getElem? (i := 16) rfl))) (Or.inl (hw _ (List.mem_of_getElem? (i := 30) rfl))) (by decide) (t := (.array .long)) (t' := .int) (by decide) (by decide))))
  have Fh_42 := (Fh_33.other W40 (Or.inr (slot_ne (Or.inl (hw _ (List.mem_of_getElem? (i := 19) rfl))) (Or.inl (hw _ (List.mem_of_getElem? (i := 30) rfl))) (by decide) (t := (.array .int)) (t' := .int) (by decide) (by decide))))
  have Ex_44 := (Ex_35.wr W40)
  have V_aS_45 := (V_aS_37.other W40 (Ne.symm neS))
  have V_aH_46 := (V_aH_31.other W40 (Ne.symm neH))
  have ZS40 : n0 ≤ h40.size := Nat.le_trans ZS31 (Keep.of_wr W40).1
  have KC40 : Keep h0 h40 [a, aS, aH] := KC31.wr W40 (Or.inl (List.mem_of_getElem? (i := 0) rfl))
  have N40 := Fr.snoc X40 N31 ga
  refine OGo.step (fun uK kK => st40 uK kK) ?_
  show OGo p e below _ (T40.setTop (mkF m 78 #[.val (.ref a), .val (.long s1_), .second, .val (.int (1 : Int32))] []))
  refine OGo.step (fun uK kK => XS.iconst X40.here hx rfl (hb hby d10_78) kK) ?_
  show OGo p e below _ (T40.setTop (mkF m 79 #[.val (.ref a), .val (.long s1_), .second, .val (.int (1 : Int32))] [(.int (1 : Int32))]))
  exact OGo.retN X40 hx Bd.notSynchronized (t := .boolean) Bd.returns (by simp) (hb hby d10_79) (by decide) (by decide) (by show Qr4 Z a aS kS s0_ s1_ s2_ s3_ s4_ s5_ s6_ s7_ aH kH k0_ k1_ k2_ k3_ k4_ k5_ k6_ k7_ h0 n0 _ T40.heap _; rw [e40]; exact ⟨rfl, N40, KC40, Fs_41, Fh_42, Fw40, V_aS_45, V_aH_46⟩)
theorem d9_0 : decode prog_55_method_5_code 0 = .ok (.aload_n 0, 1) := by decide +kernel
theorem d9_1 : decode prog_55_method_5_code 1 = .ok (.getfield 21, 3) := by decide +kernel
theorem d9_4 : decode prog_55_method_5_code 4 = .ok (.ifCond .eq 14, 3) := by decide +kernel
theorem d9_18 : decode prog_55_method_5_code 18 = .ok (.ldc2_w 40, 3) := by decide +kernel
theorem d9_21 : decode prog_55_method_5_code 21 = .ok (.goto 9, 3) := by decide +kernel
theorem d9_30 : decode prog_55_method_5_code 30 = .ok (.lreturn, 1) := by decide +kernel
theorem pne0 : plainName "com/example/graph_of_conflicts/graphofconflicts/engine/OpenSnapshots" = true := by first | (simp [plainName, overriddenIn]; done) | decide +kernel
theorem efe0 (m : MethodId) (x0 : Addr) (x1 : Int64) : entryFrame m #[(.ref x0), (.long x1)] 3 = mkF m 0 #[.val (.ref x0), .val (.long x1), .second] [] := by first | (simp [entryFrame, mkF, argsToLocals, Value.category]; done) | rfl
def Qe0 (Z : State) (a : Addr) (q9 : Int64) (h0 : Heap) (n0 : Nat) (v : Option Value) (h : Heap) (L : List Loc) : Prop := v = some (.long (-1 : Int64)) ∧ Fr n0 L ∧ h = h0
set_option maxRecDepth 65536 in
set_option maxHeartbeats 40000000 in
theorem rme0 (l : Launch) (Z : State) (a0 : Array Value) (hw : ∀ d ∈ tables_1, d.before a0 Z = true) (ws : List Jvm.Cond) (a : Addr) (q9 : Int64) (h0 : Heap) (n0 : Nat) (Z0 : n0 ≤ h0.size) (Fn : Fld Z h0 a "com/example/graph_of_conflicts/graphofconflicts/engine/OpenSnapshots" "size" "I" (.int (0 : Int32))) :
    MetFree l (⟨"com/example/graph_of_conflicts/graphofconflicts/engine/OpenSnapshots", "earliestBefore", "(J)J"⟩ : MethodName) (head1 (Jvm.Cond.code (⟨"com/example/graph_of_conflicts/graphofconflicts/engine/OpenSnapshots", "earliestBefore", "(J)J"⟩ : MethodName) prog_55_method_5_code 3 (some .long) :: ws) ({ frames := 0, cells := 0, slots := 0, locals := 0 } : Room)) (fun aQ UQ => aQ = #[(.ref a), (.long q9)] ∧ Z.Warmed39 UQ.vm ∧ UQ.heap = h0) (fun _ _ _ _ _ => True) (fun _ U o U' => ∃ v L, o = .returned v ∧ Qe0 Z a q9 h0 n0 v U'.heap L ∧ FrameEnd U o U' L ({ frames := 0, cells := 0, slots := 0, locals := 0 } : Room).cells ({ frames := 0, cells := 0, slots := 0, locals := 0 } : Room).slots) := by
  refine MetFree.of_bodySF (plainFor_of_name pne0) hisR ?_
  intro p e s m args below meth c s₁ Bd hml0 hP hK
  obtain ⟨rfl, hZ, hh⟩ := hP
  have hx := Bd.exec
  have hby := Bd.bytes
  have hml : c.maxLocals = 3 := hml0
  have hown : s.vm.findClass "com/example/graph_of_conflicts/graphofconflicts/engine/OpenSnapshots" = some m.cls := findClass_of_methodNamed Bd.named
  have hnm := (name_of_methodNamed Bd.named Bd.method).1
  have X0 : Stand p l e ({ frames := 0, cells := 0, slots := 0, locals := 0 } : Room) s m #[(.ref a), (.long q9)] below meth c s₁ [] 0 0 := Stand.of_body Bd
  have e0 : s₁.heap = h0 := by rw [← hh, Bd.state]; rfl
  have N0 := Fr.nil n0
  show OGo p e below (OPost s (Qe0 Z a q9 h0 n0) ({ frames := 0, cells := 0, slots := 0, locals := 0 } : Room).cells ({ frames := 0, cells := 0, slots := 0, locals := 0 } : Room).slots) (s₁.setTop (entryFrame m #[(.ref a), (.long q9)] 3))
  refine OGo.step (fun uK kK => castTop (efe0 m a q9) kK) ?_
  show OGo p e below _ (s₁.setTop (mkF m 0 #[.val (.ref a), .val (.long q9), .second] []))
  refine OGo.step (fun uK kK => XS.aloadN X0.here hx rfl (hb hby d9_0) rfl rfl kK) ?_
  show OGo p e below _ (s₁.setTop (mkF m 1 #[.val (.ref a), .val (.long q9), .second] [(.ref a)]))
  obtain ⟨T1, X1, e1, st1⟩ := getF X0 hx hZ hown (host := "") (Or.inl (hw _ (List.mem_of_getElem? (i := 29) rfl))) Via.refl e0 Fn (g := (mkF m 1 #[.val (.ref a), .val (.long q9), .second] [(.ref a)])) rfl rfl (hb hby d9_1)
  refine OGo.step (fun uK kK => st1 uK kK) ?_
  show OGo p e below _ (T1.setTop (mkF m 4 #[.val (.ref a), .val (.long q9), .second] [(.int (0 : Int32))]))
  have hc4 : (0 : Int32) = (0 : Int32) := by decide
  refine OGo.step (fun uK kK => XS.ifYes X1.here hx rfl (pc0 := 4) (pc' := 18) rfl (hb hby d9_4) rfl ((if0 _ _).trans (teq hc4).1) (by decide) (by decide) kK) ?_
  show OGo p e below _ (T1.setTop (mkF m 18 #[.val (.ref a), .val (.long q9), .second] []))
  refine OGo.step (fun uK kK => X1.ldc2J hx hown (mvT hZ (hw _ (List.mem_of_getElem? (i := 51) rfl))) rfl (hb hby d9_18) kK) ?_
  show OGo p e below _ (T1.setTop (mkF m 21 #[.val (.ref a), .val (.long q9), .second] [(.long (-1 : Int64))]))
  refine OGo.step (fun uK kK => XS.goto X1.here hx rfl (pc0 := 21) (pc' := 30) rfl (hb hby d9_21) (by decide) (by decide) kK) ?_
  show OGo p e below _ (T1.setTop (mkF m 30 #[.val (.ref a), .val (.long q9), .second] [(.long (-1 : Int64))]))
  exact OGo.retJ X1 hx Bd.notSynchronized Bd.returns (hb hby d9_30) (by decide) (by decide) (by show Qe0 Z a q9 h0 n0 _ T1.heap _; rw [e1]; exact ⟨rfl, N0, rfl⟩)
theorem d9_7 : decode prog_55_method_5_code 7 = .ok (.aload_n 0, 1) := by decide +kernel
theorem d9_8 : decode prog_55_method_5_code 8 = .ok (.getfield 7, 3) := by decide +kernel
theorem d9_11 : decode prog_55_method_5_code 11 = .ok (.iconst 0, 1) := by decide +kernel
theorem d9_12 : decode prog_55_method_5_code 12 = .ok (.laload, 1) := by decide +kernel
theorem d9_13 : decode prog_55_method_5_code 13 = .ok (.lload_n 1, 1) := by decide +kernel
theorem d9_14 : decode prog_55_method_5_code 14 = .ok (.lcmp, 1) := by decide +kernel
theorem d9_15 : decode prog_55_method_5_code 15 = .ok (.ifCond .lt 9, 3) := by decide +kernel
theorem d9_24 : decode prog_55_method_5_code 24 = .ok (.aload_n 0, 1) := by decide +kernel
theorem d9_25 : decode prog_55_method_5_code 25 = .ok (.getfield 7, 3) := by decide +kernel
theorem d9_28 : decode prog_55_method_5_code 28 = .ok (.iconst 0, 1) := by decide +kernel
theorem d9_29 : decode prog_55_method_5_code 29 = .ok (.laload, 1) := by decide +kernel
theorem pne1 : plainName "com/example/graph_of_conflicts/graphofconflicts/engine/OpenSnapshots" = true := by first | (simp [plainName, overriddenIn]; done) | decide +kernel
theorem efe1 (m : MethodId) (x0 : Addr) (x1 : Int64) : entryFrame m #[(.ref x0), (.long x1)] 3 = mkF m 0 #[.val (.ref x0), .val (.long x1), .second] [] := by first | (simp [entryFrame, mkF, argsToLocals, Value.category]; done) | rfl
def Qe1 (Z : State) (a : Addr) (q9 : Int64) (aS : Addr) (kS : ClassId) (s0_ : Int64) (s1_ : Int64) (s2_ : Int64) (s3_ : Int64) (s4_ : Int64) (s5_ : Int64) (s6_ : Int64) (s7_ : Int64) (h0 : Heap) (n0 : Nat) (v : Option Value) (h : Heap) (L : List Loc) : Prop := v = some (.long (if s0_ < q9 then s0_ else (-1 : Int64))) ∧ Fr n0 L ∧ h = h0
set_option maxRecDepth 65536 in
set_option maxHeartbeats 40000000 in
theorem rme1 (l : Launch) (Z : State) (a0 : Array Value) (hw : ∀ d ∈ tables_1, d.before a0 Z = true) (ws : List Jvm.Cond) (a : Addr) (q9 : Int64) (aS : Addr) (kS : ClassId) (s0_ : Int64) (s1_ : Int64) (s2_ : Int64) (s3_ : Int64) (s4_ : Int64) (s5_ : Int64) (s6_ : Int64) (s7_ : Int64) (h0 : Heap) (n0 : Nat) (Z0 : n0 ≤ h0.size) (Fs : Fld Z h0 a "com/example/graph_of_conflicts/graphofconflicts/engine/OpenSnapshots" "snapshots" "[J" (.ref aS)) (Fn : Fld Z h0 a "com/example/graph_of_conflicts/graphofconflicts/engine/OpenSnapshots" "size" "I" (.int (1 : Int32))) (Vs : Arv Z h0 aS kS .long (8 : Int32) [(.long s0_), (.long s1_), (.long s2_), (.long s3_), (.long s4_), (.long s5_), (.long s6_), (.long s7_)] (.long (0 : Int64))) :
    MetFree l (⟨"com/example/graph_of_conflicts/graphofconflicts/engine/OpenSnapshots", "earliestBefore", "(J)J"⟩ : MethodName) (head1 (Jvm.Cond.code (⟨"com/example/graph_of_conflicts/graphofconflicts/engine/OpenSnapshots", "earliestBefore", "(J)J"⟩ : MethodName) prog_55_method_5_code 3 (some .long) :: ws) ({ frames := 0, cells := 0, slots := 0, locals := 0 } : Room)) (fun aQ UQ => aQ = #[(.ref a), (.long q9)] ∧ Z.Warmed39 UQ.vm ∧ UQ.heap = h0) (fun _ _ _ _ _ => True) (fun _ U o U' => ∃ v L, o = .returned v ∧ Qe1 Z a q9 aS kS s0_ s1_ s2_ s3_ s4_ s5_ s6_ s7_ h0 n0 v U'.heap L ∧ FrameEnd U o U' L ({ frames := 0, cells := 0, slots := 0, locals := 0 } : Room).cells ({ frames := 0, cells := 0, slots := 0, locals := 0 } : Room).slots) := by
  refine MetFree.of_bodySF (plainFor_of_name pne1) hisR ?_
  intro p e s m args below meth c s₁ Bd hml0 hP hK
  obtain ⟨rfl, hZ, hh⟩ := hP
  have hx := Bd.exec
  have hby := Bd.bytes
  have hml : c.maxLocals = 3 := hml0
  have hown : s.vm.findClass "com/example/graph_of_conflicts/graphofconflicts/engine/OpenSnapshots" = some m.cls := findClass_of_methodNamed Bd.named
  have hnm := (name_of_methodNamed Bd.named Bd.method).1
  have X0 : Stand p l e ({ frames := 0, cells := 0, slots := 0, locals := 0 } : Room) s m #[(.ref a), (.long q9)] below meth c s₁ [] 0 0 := Stand.of_body Bd
  have e0 : s₁.heap = h0 := by rw [← hh, Bd.state]; rfl
  have N0 := Fr.nil n0
  show OGo p e below (OPost s (Qe1 Z a q9 aS kS s0_ s1_ s2_ s3_ s4_ s5_ s6_ s7_ h0 n0) ({ frames := 0, cells := 0, slots := 0, locals := 0 } : Room).cells ({ frames := 0, cells := 0, slots := 0, locals := 0 } : Room).slots) (s₁.setTop (entryFrame m #[(.ref a), (.long q9)] 3))
  refine OGo.step (fun uK kK => castTop (efe1 m a q9) kK) ?_
  show OGo p e below _ (s₁.setTop (mkF m 0 #[.val (.ref a), .val (.long q9), .second] []))
  refine OGo.step (fun uK kK => XS.aloadN X0.here hx rfl (hb hby d9_0) rfl rfl kK) ?_
  show OGo p e below _ (s₁.setTop (mkF m 1 #[.val (.ref a), .val (.long q9), .second] [(.ref a)]))
  obtain ⟨T1, X1, e1, st1⟩ := getF X0 hx hZ hown (host := "") (Or.inl (hw _ (List.mem_of_getElem? (i := 29) rfl))) Via.refl e0 Fn (g := (mkF m 1 #[.val (.ref a), .val (.long q9), .second] [(.ref a)])) rfl rfl (hb hby d9_1)
  refine OGo.step (fun uK kK => st1 uK kK) ?_
  show OGo p e below _ (T1.setTop (mkF m 4 #[.val (.ref a), .val (.long q9), .second] [(.int (1 : Int32))]))
  have hc4 : ¬ ((1 : Int32) = (0 : Int32)) := by decide
  refine OGo.step (fun uK kK => XS.ifNo X1.here hx rfl (hb hby d9_4) rfl ((if0 _ _).trans (feq hc4).1) kK) ?_
  show OGo p e below _ (T1.setTop (mkF m 7 #[.val (.ref a), .val (.long q9), .second] []))
  refine OGo.step (fun uK kK => XS.aloadN X1.here hx rfl (hb hby d9_7) rfl rfl kK) ?_
  show OGo p e below _ (T1.setTop (mkF m 8 #[.val (.ref a), .val (.long q9), .second] [(.ref a)]))
  obtain ⟨T2, X2, e2, st2⟩ := getF X1 hx hZ hown (host := "") (Or.inl (hw _ (List.mem_of_getElem? (i := 15) rfl))) Via.refl e1 Fs (g := (mkF m 8 #[.val (.ref a), .val (.long q9), .second] [(.ref a)])) rfl rfl (hb hby d9_8)
  refine OGo.step (fun uK kK => st2 uK kK) ?_
  show OGo p e below _ (T2.setTop (mkF m 11 #[.val (.ref a), .val (.long q9), .second] [(.ref aS)]))
  refine OGo.step (fun uK kK => XS.iconst X2.here hx rfl (hb hby d9_11) kK) ?_
  show OGo p e below _ (T2.setTop (mkF m 12 #[.val (.ref a), .val (.long q9), .second] [(.int (0 : Int32)), (.ref aS)]))
  obtain ⟨cl3, Ar3, q3, S3, M3, H3, G3⟩ := id Vs
  have hin3 : ¬ ((0 : Int32) < 0 ∨ cl3.slots.size ≤ ((0 : Int32)).toNatClampNeg) := inb_of S3 ⟨by decide, by decide⟩
  have hat3 : cl3.slots[((0 : Int32)).toNatClampNeg]? = some (.long s0_) := H3.at hin3 rfl
  refine OGo.step (fun uK kK => X2.laload hx (j := (0 : Int32)) (v := (.long s0_)) (by rw [e2]; exact Ar3.1) (State.isArrayOf_alike hZ.alike Ar3.2.1) Ar3.2.2 hin3 hat3 (g := (mkF m 12 #[.val (.ref a), .val (.long q9), .second] [(.int (0 : Int32)), (.ref aS)])) rfl rfl (hb hby d9_12) uK kK) ?_
  show OGo p e below _ (T2.setTop (mkF m 13 #[.val (.ref a), .val (.long q9), .second] [(.long s0_)]))
  refine OGo.step (fun uK kK => XS.lloadN X2.here hx rfl (hb hby d9_13) rfl kK) ?_
  show OGo p e below _ (T2.setTop (mkF m 14 #[.val (.ref a), .val (.long q9), .second] [(.long q9), (.long s0_)]))
  refine OGo.step (fun uK kK => XS.lcmp X2.here hx rfl (hb hby d9_14) rfl kK) ?_
  show OGo p e below _ (T2.setTop (mkF m 15 #[.val (.ref a), .val (.long q9), .second] [(.int (lcmpW s0_ q9))]))
  by_cases hc15 : s0_ < q9
  · skip
    refine OGo.step (fun uK kK => XS.ifYes X2.here hx rfl (pc0 := 15) (pc' := 24) rfl (hb hby d9_15) rfl ((if0 _ _).trans (tlt ((lw_lt _ _).mpr hc15)).1) (by decide) (by decide) kK) ?_
    show OGo p e below _ (T2.setTop (mkF m 24 #[.val (.ref a), .val (.long q9), .second] []))
    refine OGo.step (fun uK kK => XS.aloadN X2.here hx rfl (hb hby d9_24) rfl rfl kK) ?_
    show OGo p e below _ (T2.setTop (mkF m 25 #[.val (.ref a), .val (.long q9), .second] [(.ref a)]))
    obtain ⟨T4, X4, e4, st4⟩ := getF X2 hx hZ hown (host := "") (Or.inl (hw _ (List.mem_of_getElem? (i := 15) rfl))) Via.refl e2 Fs (g := (mkF m 25 #[.val (.ref a), .val (.long q9), .second] [(.ref a)])) rfl rfl (hb hby d9_25)
    refine OGo.step (fun uK kK => st4 uK kK) ?_
    show OGo p e below _ (T4.setTop (mkF m 28 #[.val (.ref a), .val (.long q9), .second] [(.ref aS)]))
    refine OGo.step (fun uK kK => XS.iconst X4.here hx rfl (hb hby d9_28) kK) ?_
    show OGo p e below _ (T4.setTop (mkF m 29 #[.val (.ref a), .val (.long q9), .second] [(.int (0 : Int32)), (.ref aS)]))
    obtain ⟨cl5, Ar5, q5, S5, M5, H5, G5⟩ := id Vs
    have hin5 : ¬ ((0 : Int32) < 0 ∨ cl5.slots.size ≤ ((0 : Int32)).toNatClampNeg) := inb_of S5 ⟨by decide, by decide⟩
    have hat5 : cl5.slots[((0 : Int32)).toNatClampNeg]? = some (.long s0_) := H5.at hin5 rfl
    refine OGo.step (fun uK kK => X4.laload hx (j := (0 : Int32)) (v := (.long s0_)) (by rw [e4]; exact Ar5.1) (State.isArrayOf_alike hZ.alike Ar5.2.1) Ar5.2.2 hin5 hat5 (g := (mkF m 29 #[.val (.ref a), .val (.long q9), .second] [(.int (0 : Int32)), (.ref aS)])) rfl rfl (hb hby d9_29) uK kK) ?_
    show OGo p e below _ (T4.setTop (mkF m 30 #[.val (.ref a), .val (.long q9), .second] [(.long s0_)]))
    exact OGo.retJ X4 hx Bd.notSynchronized Bd.returns (hb hby d9_30) (by decide) (by decide) (by show Qe1 Z a q9 aS kS s0_ s1_ s2_ s3_ s4_ s5_ s6_ s7_ h0 n0 _ T4.heap _; rw [e4]; exact ⟨by rw [if_pos hc15], N0, rfl⟩)
  · skip
    refine OGo.step (fun uK kK => XS.ifNo X2.here hx rfl (hb hby d9_15) rfl ((if0 _ _).trans (flt (fun q => hc15 ((lw_lt _ _).mp q))).1) kK) ?_
    show OGo p e below _ (T2.setTop (mkF m 18 #[.val (.ref a), .val (.long q9), .second] []))
    refine OGo.step (fun uK kK => X2.ldc2J hx hown (mvT hZ (hw _ (List.mem_of_getElem? (i := 51) rfl))) rfl (hb hby d9_18) kK) ?_
    show OGo p e below _ (T2.setTop (mkF m 21 #[.val (.ref a), .val (.long q9), .second] [(.long (-1 : Int64))]))
    refine OGo.step (fun uK kK => XS.goto X2.here hx rfl (pc0 := 21) (pc' := 30) rfl (hb hby d9_21) (by decide) (by decide) kK) ?_
    show OGo p e below _ (T2.setTop (mkF m 30 #[.val (.ref a), .val (.long q9), .second] [(.long (-1 : Int64))]))
    exact OGo.retJ X2 hx Bd.notSynchronized Bd.returns (hb hby d9_30) (by decide) (by decide) (by show Qe1 Z a q9 aS kS s0_ s1_ s2_ s3_ s4_ s5_ s6_ s7_ h0 n0 _ T2.heap _; rw [e2]; exact ⟨by rw [if_neg hc15], N0, rfl⟩)
theorem pne2 : plainName "com/example/graph_of_conflicts/graphofconflicts/engine/OpenSnapshots" = true := by first | (simp [plainName, overriddenIn]; done) | decide +kernel
theorem efe2 (m : MethodId) (x0 : Addr) (x1 : Int64) : entryFrame m #[(.ref x0), (.long x1)] 3 = mkF m 0 #[.val (.ref x0), .val (.long x1), .second] [] := by first | (simp [entryFrame, mkF, argsToLocals, Value.category]; done) | rfl
def Qe2 (Z : State) (a : Addr) (q9 : Int64) (aS : Addr) (kS : ClassId) (s0_ : Int64) (s1_ : Int64) (s2_ : Int64) (s3_ : Int64) (s4_ : Int64) (s5_ : Int64) (s6_ : Int64) (s7_ : Int64) (h0 : Heap) (n0 : Nat) (v : Option Value) (h : Heap) (L : List Loc) : Prop := v = some (.long (if s0_ < q9 then s0_ else (-1 : Int64))) ∧ Fr n0 L ∧ h = h0
set_option maxRecDepth 65536 in
set_option maxHeartbeats 40000000 in
theorem rme2 (l : Launch) (Z : State) (a0 : Array Value) (hw : ∀ d ∈ tables_1, d.before a0 Z = true) (ws : List Jvm.Cond) (a : Addr) (q9 : Int64) (aS : Addr) (kS : ClassId) (s0_ : Int64) (s1_ : Int64) (s2_ : Int64) (s3_ : Int64) (s4_ : Int64) (s5_ : Int64) (s6_ : Int64) (s7_ : Int64) (h0 : Heap) (n0 : Nat) (Z0 : n0 ≤ h0.size) (Fs : Fld Z h0 a "com/example/graph_of_conflicts/graphofconflicts/engine/OpenSnapshots" "snapshots" "[J" (.ref aS)) (Fn : Fld Z h0 a "com/example/graph_of_conflicts/graphofconflicts/engine/OpenSnapshots" "size" "I" (.int (2 : Int32))) (Vs : Arv Z h0 aS kS .long (8 : Int32) [(.long s0_), (.long s1_), (.long s2_), (.long s3_), (.long s4_), (.long s5_), (.long s6_), (.long s7_)] (.long (0 : Int64))) :
    MetFree l (⟨"com/example/graph_of_conflicts/graphofconflicts/engine/OpenSnapshots", "earliestBefore", "(J)J"⟩ : MethodName) (head1 (Jvm.Cond.code (⟨"com/example/graph_of_conflicts/graphofconflicts/engine/OpenSnapshots", "earliestBefore", "(J)J"⟩ : MethodName) prog_55_method_5_code 3 (some .long) :: ws) ({ frames := 0, cells := 0, slots := 0, locals := 0 } : Room)) (fun aQ UQ => aQ = #[(.ref a), (.long q9)] ∧ Z.Warmed39 UQ.vm ∧ UQ.heap = h0) (fun _ _ _ _ _ => True) (fun _ U o U' => ∃ v L, o = .returned v ∧ Qe2 Z a q9 aS kS s0_ s1_ s2_ s3_ s4_ s5_ s6_ s7_ h0 n0 v U'.heap L ∧ FrameEnd U o U' L ({ frames := 0, cells := 0, slots := 0, locals := 0 } : Room).cells ({ frames := 0, cells := 0, slots := 0, locals := 0 } : Room).slots) := by
  refine MetFree.of_bodySF (plainFor_of_name pne2) hisR ?_
  intro p e s m args below meth c s₁ Bd hml0 hP hK
  obtain ⟨rfl, hZ, hh⟩ := hP
  have hx := Bd.exec
  have hby := Bd.bytes
  have hml : c.maxLocals = 3 := hml0
  have hown : s.vm.findClass "com/example/graph_of_conflicts/graphofconflicts/engine/OpenSnapshots" = some m.cls := findClass_of_methodNamed Bd.named
  have hnm := (name_of_methodNamed Bd.named Bd.method).1
  have X0 : Stand p l e ({ frames := 0, cells := 0, slots := 0, locals := 0 } : Room) s m #[(.ref a), (.long q9)] below meth c s₁ [] 0 0 := Stand.of_body Bd
  have e0 : s₁.heap = h0 := by rw [← hh, Bd.state]; rfl
  have N0 := Fr.nil n0
  show OGo p e below (OPost s (Qe2 Z a q9 aS kS s0_ s1_ s2_ s3_ s4_ s5_ s6_ s7_ h0 n0) ({ frames := 0, cells := 0, slots := 0, locals := 0 } : Room).cells ({ frames := 0, cells := 0, slots := 0, locals := 0 } : Room).slots) (s₁.setTop (entryFrame m #[(.ref a), (.long q9)] 3))
  refine OGo.step (fun uK kK => castTop (efe2 m a q9) kK) ?_
  show OGo p e below _ (s₁.setTop (mkF m 0 #[.val (.ref a), .val (.long q9), .second] []))
  refine OGo.step (fun uK kK => XS.aloadN X0.here hx rfl (hb hby d9_0) rfl rfl kK) ?_
  show OGo p e below _ (s₁.setTop (mkF m 1 #[.val (.ref a), .val (.long q9), .second] [(.ref a)]))
  obtain ⟨T1, X1, e1, st1⟩ := getF X0 hx hZ hown (host := "") (Or.inl (hw _ (List.mem_of_getElem? (i := 29) rfl))) Via.refl e0 Fn (g := (mkF m 1 #[.val (.ref a), .val (.long q9), .second] [(.ref a)])) rfl rfl (hb hby d9_1)
  refine OGo.step (fun uK kK => st1 uK kK) ?_
  show OGo p e below _ (T1.setTop (mkF m 4 #[.val (.ref a), .val (.long q9), .second] [(.int (2 : Int32))]))
  have hc4 : ¬ ((2 : Int32) = (0 : Int32)) := by decide
  refine OGo.step (fun uK kK => XS.ifNo X1.here hx rfl (hb hby d9_4) rfl ((if0 _ _).trans (feq hc4).1) kK) ?_
  show OGo p e below _ (T1.setTop (mkF m 7 #[.val (.ref a), .val (.long q9), .second] []))
  refine OGo.step (fun uK kK => XS.aloadN X1.here hx rfl (hb hby d9_7) rfl rfl kK) ?_
  show OGo p e below _ (T1.setTop (mkF m 8 #[.val (.ref a), .val (.long q9), .second] [(.ref a)]))
  obtain ⟨T2, X2, e2, st2⟩ := getF X1 hx hZ hown (host := "") (Or.inl (hw _ (List.mem_of_getElem? (i := 15) rfl))) Via.refl e1 Fs (g := (mkF m 8 #[.val (.ref a), .val (.long q9), .second] [(.ref a)])) rfl rfl (hb hby d9_8)
  refine OGo.step (fun uK kK => st2 uK kK) ?_
  show OGo p e below _ (T2.setTop (mkF m 11 #[.val (.ref a), .val (.long q9), .second] [(.ref aS)]))
  refine OGo.step (fun uK kK => XS.iconst X2.here hx rfl (hb hby d9_11) kK) ?_
  show OGo p e below _ (T2.setTop (mkF m 12 #[.val (.ref a), .val (.long q9), .second] [(.int (0 : Int32)), (.ref aS)]))
  obtain ⟨cl3, Ar3, q3, S3, M3, H3, G3⟩ := id Vs
  have hin3 : ¬ ((0 : Int32) < 0 ∨ cl3.slots.size ≤ ((0 : Int32)).toNatClampNeg) := inb_of S3 ⟨by decide, by decide⟩
  have hat3 : cl3.slots[((0 : Int32)).toNatClampNeg]? = some (.long s0_) := H3.at hin3 rfl
  refine OGo.step (fun uK kK => X2.laload hx (j := (0 : Int32)) (v := (.long s0_)) (by rw [e2]; exact Ar3.1) (State.isArrayOf_alike hZ.alike Ar3.2.1) Ar3.2.2 hin3 hat3 (g := (mkF m 12 #[.val (.ref a), .val (.long q9), .second] [(.int (0 : Int32)), (.ref aS)])) rfl rfl (hb hby d9_12) uK kK) ?_
  show OGo p e below _ (T2.setTop (mkF m 13 #[.val (.ref a), .val (.long q9), .second] [(.long s0_)]))
  refine OGo.step (fun uK kK => XS.lloadN X2.here hx rfl (hb hby d9_13) rfl kK) ?_
  show OGo p e below _ (T2.setTop (mkF m 14 #[.val (.ref a), .val (.long q9), .second] [(.long q9), (.long s0_)]))
  refine OGo.step (fun uK kK => XS.lcmp X2.here hx rfl (hb hby d9_14) rfl kK) ?_
  show OGo p e below _ (T2.setTop (mkF m 15 #[.val (.ref a), .val (.long q9), .second] [(.int (lcmpW s0_ q9))]))
  by_cases hc15 : s0_ < q9
  · skip
    refine OGo.step (fun uK kK => XS.ifYes X2.here hx rfl (pc0 := 15) (pc' := 24) rfl (hb hby d9_15) rfl ((if0 _ _).trans (tlt ((lw_lt _ _).mpr hc15)).1) (by decide) (by decide) kK) ?_
    show OGo p e below _ (T2.setTop (mkF m 24 #[.val (.ref a), .val (.long q9), .second] []))
    refine OGo.step (fun uK kK => XS.aloadN X2.here hx rfl (hb hby d9_24) rfl rfl kK) ?_
    show OGo p e below _ (T2.setTop (mkF m 25 #[.val (.ref a), .val (.long q9), .second] [(.ref a)]))
    obtain ⟨T4, X4, e4, st4⟩ := getF X2 hx hZ hown (host := "") (Or.inl (hw _ (List.mem_of_getElem? (i := 15) rfl))) Via.refl e2 Fs (g := (mkF m 25 #[.val (.ref a), .val (.long q9), .second] [(.ref a)])) rfl rfl (hb hby d9_25)
    refine OGo.step (fun uK kK => st4 uK kK) ?_
    show OGo p e below _ (T4.setTop (mkF m 28 #[.val (.ref a), .val (.long q9), .second] [(.ref aS)]))
    refine OGo.step (fun uK kK => XS.iconst X4.here hx rfl (hb hby d9_28) kK) ?_
    show OGo p e below _ (T4.setTop (mkF m 29 #[.val (.ref a), .val (.long q9), .second] [(.int (0 : Int32)), (.ref aS)]))
    obtain ⟨cl5, Ar5, q5, S5, M5, H5, G5⟩ := id Vs
    have hin5 : ¬ ((0 : Int32) < 0 ∨ cl5.slots.size ≤ ((0 : Int32)).toNatClampNeg) := inb_of S5 ⟨by decide, by decide⟩
    have hat5 : cl5.slots[((0 : Int32)).toNatClampNeg]? = some (.long s0_) := H5.at hin5 rfl
    refine OGo.step (fun uK kK => X4.laload hx (j := (0 : Int32)) (v := (.long s0_)) (by rw [e4]; exact Ar5.1) (State.isArrayOf_alike hZ.alike Ar5.2.1) Ar5.2.2 hin5 hat5 (g := (mkF m 29 #[.val (.ref a), .val (.long q9), .second] [(.int (0 : Int32)), (.ref aS)])) rfl rfl (hb hby d9_29) uK kK) ?_
    show OGo p e below _ (T4.setTop (mkF m 30 #[.val (.ref a), .val (.long q9), .second] [(.long s0_)]))
    exact OGo.retJ X4 hx Bd.notSynchronized Bd.returns (hb hby d9_30) (by decide) (by decide) (by show Qe2 Z a q9 aS kS s0_ s1_ s2_ s3_ s4_ s5_ s6_ s7_ h0 n0 _ T4.heap _; rw [e4]; exact ⟨by rw [if_pos hc15], N0, rfl⟩)
  · skip
    refine OGo.step (fun uK kK => XS.ifNo X2.here hx rfl (hb hby d9_15) rfl ((if0 _ _).trans (flt (fun q => hc15 ((lw_lt _ _).mp q))).1) kK) ?_
    show OGo p e below _ (T2.setTop (mkF m 18 #[.val (.ref a), .val (.long q9), .second] []))
    refine OGo.step (fun uK kK => X2.ldc2J hx hown (mvT hZ (hw _ (List.mem_of_getElem? (i := 51) rfl))) rfl (hb hby d9_18) kK) ?_
    show OGo p e below _ (T2.setTop (mkF m 21 #[.val (.ref a), .val (.long q9), .second] [(.long (-1 : Int64))]))
    refine OGo.step (fun uK kK => XS.goto X2.here hx rfl (pc0 := 21) (pc' := 30) rfl (hb hby d9_21) (by decide) (by decide) kK) ?_
    show OGo p e below _ (T2.setTop (mkF m 30 #[.val (.ref a), .val (.long q9), .second] [(.long (-1 : Int64))]))
    exact OGo.retJ X2 hx Bd.notSynchronized Bd.returns (hb hby d9_30) (by decide) (by decide) (by show Qe2 Z a q9 aS kS s0_ s1_ s2_ s3_ s4_ s5_ s6_ s7_ h0 n0 _ T2.heap _; rw [e2]; exact ⟨by rw [if_neg hc15], N0, rfl⟩)
theorem pn0 : plainName "com/example/graph_of_conflicts/graphofconflicts/engine/OpenSnapshotsEarliestBeforePinLaw" = true := by first | (simp [plainName, overriddenIn]; done) | decide +kernel
theorem pd0_0 : parseMethodDescriptor "(JJ)J" = some ⟨[.long, .long], some .long⟩ := by decide +kernel
theorem pd0_1 : parseMethodDescriptor "()V" = some ⟨[], none⟩ := by decide +kernel
theorem pd0_2 : parseMethodDescriptor "(J)J" = some ⟨[.long], some .long⟩ := by decide +kernel
theorem pd0_3 : parseMethodDescriptor "(J)V" = some ⟨[.long], none⟩ := by decide +kernel
theorem pd0_4 : parseMethodDescriptor "(J)Z" = some ⟨[.long], some .boolean⟩ := by decide +kernel
theorem ef0 (m : MethodId) (x0 : Int64) (x1 : Int64) (x2 : Int64) (x3 : Int32) : entryFrame m #[(.long x0), (.long x1), (.long x2), (.int x3)] maxLocals = mkF m 0 #[.val (.long x0), .second, .val (.long x1), .second, .val (.long x2), .second, .val (.int x3), .unset, .unset, .unset, .unset, .unset, .unset, .unset, .unset, .unset, .unset, .unset] [] := by first | (simp [entryFrame, mkF, argsToLocals, Value.category, maxLocals]; done) | rfl
def Q0 (Z : State) (q1 : Int64) (q2 : Int64) (uu : Int64) (p3 : Int32) (h0 : Heap) (n0 : Nat) (v : Option Value) (h : Heap) (L : List Loc) : Prop := v = some (.int 1) ∧ Fr n0 L
set_option maxRecDepth 65536 in
set_option maxHeartbeats 40000000 in
theorem rm0 (l : Launch) (Z : State) (a0 : Array Value) (hw : ∀ d ∈ tables_1, d.before a0 Z = true) (ws : List Jvm.Cond) (q1 : Int64) (q2 : Int64) (uu : Int64) (p3 : Int32) (h0 : Heap) (n0 : Nat) (Z0 : n0 ≤ h0.size) :
    MetFree l x (head1 (Jvm.Cond.code x code maxLocals ret :: ws) room_1) (fun aQ UQ => aQ = #[(.long q1), (.long q2), (.long uu), (.int p3)] ∧ Z.Warmed39 UQ.vm ∧ UQ.heap = h0) (fun _ _ _ _ _ => True) (fun _ U o U' => ∃ v L, o = .returned v ∧ Q0 Z q1 q2 uu p3 h0 n0 v U'.heap L ∧ FrameEnd U o U' L room_1.cells room_1.slots) := by
  refine MetFree.of_bodySF (plainFor_of_name pn0) hisR ?_
  intro p e s m args below meth c s₁ Bd hml0 hP hK
  obtain ⟨rfl, hZ, hh⟩ := hP
  have hx := Bd.exec
  have hby := Bd.bytes
  have hml : c.maxLocals = 18 := hml0
  have hown : s.vm.findClass "com/example/graph_of_conflicts/graphofconflicts/engine/OpenSnapshotsEarliestBeforePinLaw" = some m.cls := findClass_of_methodNamed Bd.named
  have hnm := (name_of_methodNamed Bd.named Bd.method).1
  have X0 : Stand p l e room_1 s m #[(.long q1), (.long q2), (.long uu), (.int p3)] below meth c s₁ [] 0 0 := Stand.of_body Bd
  have e0 : s₁.heap = h0 := by rw [← hh, Bd.state]; rfl
  have N0 := Fr.nil n0
  show OGo p e below (OPost s (Q0 Z q1 q2 uu p3 h0 n0) room_1.cells room_1.slots) (s₁.setTop (entryFrame m #[(.long q1), (.long q2), (.long uu), (.int p3)] maxLocals))
  refine OGo.step (fun uK kK => castTop (ef0 m q1 q2 uu p3) kK) ?_
  show OGo p e below _ (s₁.setTop (mkF m 0 #[.val (.long q1), .second, .val (.long q2), .second, .val (.long uu), .second, .val (.int p3), .unset, .unset, .unset, .unset, .unset, .unset, .unset, .unset, .unset, .unset, .unset] []))
  refine OGo.step (fun uK kK => XS.lloadN X0.here hx rfl (hb hby at_0) rfl kK) ?_
  show OGo p e below _ (s₁.setTop (mkF m 1 #[.val (.long q1), .second, .val (.long q2), .second, .val (.long uu), .second, .val (.int p3), .unset, .unset, .unset, .unset, .unset, .unset, .unset, .unset, .unset, .unset, .unset] [(.long q1)]))
  refine OGo.step (fun uK kK => X0.ldc2J hx hown (mvT hZ (hw _ (List.mem_of_getElem? (i := 0) rfl))) rfl (hb hby at_1) kK) ?_
  show OGo p e below _ (s₁.setTop (mkF m 4 #[.val (.long q1), .second, .val (.long q2), .second, .val (.long uu), .second, .val (.int p3), .unset, .unset, .unset, .unset, .unset, .unset, .unset, .unset, .unset, .unset, .unset] [(.long (9223372036854775807 : Int64)), (.long q1)]))
  refine OGo.step (fun uK kK => XS.land X0.here hx rfl (hb hby at_4) rfl kK) ?_
  show OGo p e below _ (s₁.setTop (mkF m 5 #[.val (.long q1), .second, .val (.long q2), .second, .val (.long uu), .second, .val (.int p3), .unset, .unset, .unset, .unset, .unset, .unset, .unset, .unset, .unset, .unset, .unset] [(.long (q1 &&& (9223372036854775807 : Int64)))]))
  obtain ⟨s0, ev_s0⟩ : ∃ z : Int64, z = (q1 &&& (9223372036854775807 : Int64)) := ⟨_, rfl⟩
  rw [← ev_s0]
  show OGo p e below _ (s₁.setTop (mkF m 5 #[.val (.long q1), .second, .val (.long q2), .second, .val (.long uu), .second, .val (.int p3), .unset, .unset, .unset, .unset, .unset, .unset, .unset, .unset, .unset, .unset, .unset] [(.long s0)]))
  refine OGo.step (fun uK kK => XS.lstore X0.here hx rfl (hb hby at_5) rfl (l' := #[.val (.long q1), .second, .val (.long q2), .second, .val (.long uu), .second, .val (.int p3), .val (.long s0), .second, .unset, .unset, .unset, .unset, .unset, .unset, .unset, .unset, .unset]) rfl kK) ?_
  show OGo p e below _ (s₁.setTop (mkF m 7 #[.val (.long q1), .second, .val (.long q2), .second, .val (.long uu), .second, .val (.int p3), .val (.long s0), .second, .unset, .unset, .unset, .unset, .unset, .unset, .unset, .unset, .unset] []))
  refine OGo.step (fun uK kK => XS.lload X0.here hx rfl (hb hby at_7) rfl kK) ?_
  refine OGo.step (fun uK kK => XS.lloadN X0.here hx rfl (hb hby at_9) rfl kK) ?_
  show OGo p e below _ (s₁.setTop (mkF m 10 #[.val (.long q1), .second, .val (.long q2), .second, .val (.long uu), .second, .val (.int p3), .val (.long s0), .second, .unset, .unset, .unset, .unset, .unset, .unset, .unset, .unset, .unset] [(.long q2), (.long s0)]))
  refine OGo.step (fun uK kK => X0.ldc2J hx hown (mvT hZ (hw _ (List.mem_of_getElem? (i := 0) rfl))) rfl (hb hby at_10) kK) ?_
  show OGo p e below _ (s₁.setTop (mkF m 13 #[.val (.long q1), .second, .val (.long q2), .second, .val (.long uu), .second, .val (.int p3), .val (.long s0), .second, .unset, .unset, .unset, .unset, .unset, .unset, .unset, .unset, .unset] [(.long (9223372036854775807 : Int64)), (.long q2), (.long s0)]))
  refine OGo.step (fun uK kK => XS.land X0.here hx rfl (hb hby at_13) rfl kK) ?_
  show OGo p e below _ (s₁.setTop (mkF m 14 #[.val (.long q1), .second, .val (.long q2), .second, .val (.long uu), .second, .val (.int p3), .val (.long s0), .second, .unset, .unset, .unset, .unset, .unset, .unset, .unset, .unset, .unset] [(.long (q2 &&& (9223372036854775807 : Int64))), (.long s0)]))
  obtain ⟨_, _, ⟨T1, Lq1, kq_1, nq_1⟩, -, X1, ⟨Lc1, hQ1, lq1, yq1, zq1⟩, st1⟩ := Jvm.LawKit.callS X0 hx (y := (⟨"java/lang/Math", "max", "(JJ)J"⟩ : MethodName)) hown (mvT hZ (hw _ (List.mem_of_getElem? (i := 1) rfl))) (mvT hZ (hw _ (List.mem_of_getElem? (i := 2) rfl))) (mvT hZ (hw _ (List.mem_of_getElem? (i := 3) rfl))) (mvT hZ (hw _ (List.mem_of_getElem? (i := 4) rfl))) (by decide) (backOf (W := 0) (rmmx l Z a0 hw [] s0 (q2 &&& (9223372036854775807 : Int64))  h0 n0 Z0 ) hZ (hw _ (List.mem_of_getElem? (i := 4) rfl)) (hw _ (List.mem_of_getElem? (i := 3) rfl)) (by decide) (by decide)) (g := (mkF m 14 #[.val (.long q1), .second, .val (.long q2), .second, .val (.long uu), .second, .val (.int p3), .val (.long s0), .second, .unset, .unset, .unset, .unset, .unset, .unset, .unset, .unset, .unset] [(.long (q2 &&& (9223372036854775807 : Int64))), (.long s0)])) rfl (by rw [hml]; rfl) (argsL := [(.long s0), (.long (q2 &&& (9223372036854775807 : Int64)))]) (rest := []) (lenOf pd0_0 rfl) rfl (by show 2 * 0 + _ ≤ _; exact Nat.le_of_eq rfl) (hb hby at_14) (fun _ _ => ⟨rfl, e0, (by decide : 0 + 0 ≤ _), (by decide : 0 + 0 ≤ _)⟩)
  dsimp only [Pt.U, Pt.locs, Pt.cells, Pt.slots] at X1 lq1 yq1 zq1 st1 hQ1
  subst lq1 yq1 zq1
  obtain ⟨rfl, Nq1, e1⟩ := hQ1
  have N1 := Fr.app N0 Nq1
  refine OGo.step (fun uK kK => st1 uK kK) ?_
  show OGo p e below _ (T1.setTop (mkF m 17 #[.val (.long q1), .second, .val (.long q2), .second, .val (.long uu), .second, .val (.int p3), .val (.long s0), .second, .unset, .unset, .unset, .unset, .unset, .unset, .unset, .unset, .unset] [(.long (if s0 < (q2 &&& (9223372036854775807 : Int64)) then (q2 &&& (9223372036854775807 : Int64)) else s0))]))
  obtain ⟨s1, ev_s1⟩ : ∃ z : Int64, z = (if s0 < (q2 &&& (9223372036854775807 : Int64)) then (q2 &&& (9223372036854775807 : Int64)) else s0) := ⟨_, rfl⟩
  rw [← ev_s1]
  show OGo p e below _ (T1.setTop (mkF m 17 #[.val (.long q1), .second, .val (.long q2), .second, .val (.long uu), .second, .val (.int p3), .val (.long s0), .second, .unset, .unset, .unset, .unset, .unset, .unset, .unset, .unset, .unset] [(.long s1)]))
  refine OGo.step (fun uK kK => XS.lstore X1.here hx rfl (hb hby at_17) rfl (l' := #[.val (.long q1), .second, .val (.long q2), .second, .val (.long uu), .second, .val (.int p3), .val (.long s0), .second, .val (.long s1), .second, .unset, .unset, .unset, .unset, .unset, .unset, .unset]) rfl kK) ?_
  show OGo p e below _ (T1.setTop (mkF m 19 #[.val (.long q1), .second, .val (.long q2), .second, .val (.long uu), .second, .val (.int p3), .val (.long s0), .second, .val (.long s1), .second, .unset, .unset, .unset, .unset, .unset, .unset, .unset] []))
  refine OGo.step (fun uK kK => XS.iload X1.here hx rfl (hb hby at_19) rfl kK) ?_
  refine OGo.step (fun uK kK => XS.bipush X1.here hx rfl (hb hby at_21) kK) ?_
  show OGo p e below _ (T1.setTop (mkF m 23 #[.val (.long q1), .second, .val (.long q2), .second, .val (.long uu), .second, .val (.int p3), .val (.long s0), .second, .val (.long s1), .second, .unset, .unset, .unset, .unset, .unset, .unset, .unset] [(.int (7 : Int32)), (.int p3)]))
  refine OGo.step (fun uK kK => XS.iand X1.here hx rfl (hb hby at_23) rfl kK) ?_
  show OGo p e below _ (T1.setTop (mkF m 24 #[.val (.long q1), .second, .val (.long q2), .second, .val (.long uu), .second, .val (.int p3), .val (.long s0), .second, .val (.long s1), .second, .unset, .unset, .unset, .unset, .unset, .unset, .unset] [(.int (p3 &&& (7 : Int32)))]))
  obtain ⟨cc, ev_cc⟩ : ∃ z : Int32, z = (p3 &&& (7 : Int32)) := ⟨_, rfl⟩
  rw [← ev_cc]
  show OGo p e below _ (T1.setTop (mkF m 24 #[.val (.long q1), .second, .val (.long q2), .second, .val (.long uu), .second, .val (.int p3), .val (.long s0), .second, .val (.long s1), .second, .unset, .unset, .unset, .unset, .unset, .unset, .unset] [(.int cc)]))
  refine OGo.step (fun uK kK => XS.istore X1.here hx rfl (hb hby at_24) rfl (l' := #[.val (.long q1), .second, .val (.long q2), .second, .val (.long uu), .second, .val (.int p3), .val (.long s0), .second, .val (.long s1), .second, .val (.int cc), .unset, .unset, .unset, .unset, .unset, .unset]) rfl kK) ?_
  show OGo p e below _ (T1.setTop (mkF m 26 #[.val (.long q1), .second, .val (.long q2), .second, .val (.long uu), .second, .val (.int p3), .val (.long s0), .second, .val (.long s1), .second, .val (.int cc), .unset, .unset, .unset, .unset, .unset, .unset] []))
  obtain ⟨T2, h2, X2, e2, E2, A2, D2, -, st2⟩ := newO X1 hx hZ hown (hw _ (List.mem_of_getElem? (i := 5) rfl)) (hw _ (List.mem_of_getElem? (i := 6) rfl)) (hw _ (List.mem_of_getElem? (i := 7) rfl)) e1 (g := (mkF m 26 #[.val (.long q1), .second, .val (.long q2), .second, .val (.long uu), .second, .val (.int p3), .val (.long s0), .second, .val (.long s1), .second, .val (.int cc), .unset, .unset, .unset, .unset, .unset, .unset] [])) rfl (hb hby at_26) (by decide) (by decide)
  obtain ⟨b2, g2⟩ : ∃ z, z = h0.size := ⟨_, rfl⟩
  rw [← g2] at A2 D2 st2
  have gn_b2 : n0 ≤ b2 := Nat.le_trans Z0 (Nat.le_of_eq g2.symm)
  have sz_b2 : h0.size ≤ b2 := Nat.le_trans (Keep.refl h0 []).1 (Nat.le_of_eq g2.symm)
  have ZS2 : n0 ≤ h2.size := Nat.le_trans Z0 E2.1
  have KC2 : Keep h0 h2 [] := (Keep.refl h0 []).ext E2
  have Fsnapshots_b2 : Fld Z h2 b2 "com/example/graph_of_conflicts/graphofconflicts/engine/OpenSnapshots" "snapshots" "[J" .null := D2 (Or.inl (hw _ (List.mem_of_getElem? (i := 16) rfl))) (ty := (.array .long)) (by decide)
  have Fholders_b2 : Fld Z h2 b2 "com/example/graph_of_conflicts/graphofconflicts/engine/OpenSnapshots" "holders" "[I" .null := D2 (Or.inl (hw _ (List.mem_of_getElem? (i := 19) rfl))) (ty := (.array .int)) (by decide)
  have Fsize_b2 : Fld Z h2 b2 "com/example/graph_of_conflicts/graphofconflicts/engine/OpenSnapshots" "size" "I" (.int (0 : Int32)) := D2 (Or.inl (hw _ (List.mem_of_getElem? (i := 30) rfl))) (ty := .int) (by decide)
  refine OGo.step (fun uK kK => st2 uK kK) ?_
  show OGo p e below _ (T2.setTop (mkF m 29 #[.val (.long q1), .second, .val (.long q2), .second, .val (.long uu), .second, .val (.int p3), .val (.long s0), .second, .val (.long s1), .second, .val (.int cc), .unset, .unset, .unset, .unset, .unset, .unset] [(.ref b2)]))
  refine OGo.step (fun uK kK => XS.dup X2.here hx rfl (hb hby at_29) rfl rfl kK) ?_
  show OGo p e below _ (T2.setTop (mkF m 30 #[.val (.long q1), .second, .val (.long q2), .second, .val (.long uu), .second, .val (.int p3), .val (.long s0), .second, .val (.long s1), .second, .val (.int cc), .unset, .unset, .unset, .unset, .unset, .unset] [(.ref b2), (.ref b2)]))
  obtain ⟨_, _, ⟨T3, Lq3, kq_3, nq_3⟩, -, X3, ⟨Lc3, hQ3, lq3, yq3, zq3⟩, st3⟩ := X2.specialBack hx (y := (⟨"com/example/graph_of_conflicts/graphofconflicts/engine/OpenSnapshots", "<init>", "()V"⟩ : MethodName)) rfl hown (mvT hZ (hw _ (List.mem_of_getElem? (i := 8) rfl))) (mvT hZ (hw _ (List.mem_of_getElem? (i := 9) rfl))) (mvT hZ (hw _ (List.mem_of_getElem? (i := 10) rfl))) (by decide) (backOf (W := 1) (rmi l Z a0 hw [] b2  h2 n0 ZS2 Fsnapshots_b2 Fholders_b2 Fsize_b2 A2 gn_b2) hZ (hw _ (List.mem_of_getElem? (i := 10) rfl)) (hw _ (List.mem_of_getElem? (i := 7) rfl)) (by decide) (by decide)) (g := (mkF m 30 #[.val (.long q1), .second, .val (.long q2), .second, .val (.long uu), .second, .val (.int p3), .val (.long s0), .second, .val (.long s1), .second, .val (.int cc), .unset, .unset, .unset, .unset, .unset, .unset] [(.ref b2), (.ref b2)])) rfl (by rw [hml]; rfl) (Steps.refl _) (a := b2) (argsL := []) (rest := [(.ref b2)]) (lenOf pd0_1 rfl) rfl (by show 2 * 0 + _ ≤ _; exact Nat.le_of_eq rfl) (hb hby at_30) (fun _ _ => ⟨rfl, e2, (by decide : 1 + 2 ≤ _), (by decide : 3 + 16 ≤ _)⟩)
  dsimp only [Pt.U, Pt.locs, Pt.cells, Pt.slots] at X3 lq3 yq3 zq3 st3 hQ3
  subst lq3 yq3 zq3
  obtain ⟨rfl, Nq3, K3, aS, kS, aH, kH, gS, gH, zS, zH, neSH, Fs3, Fh3, Fn3, Vs3, Vh3⟩ := hQ3
  have A2_4 := (A2.keep K3)
  have ZS3 : n0 ≤ T3.heap.size := Nat.le_trans ZS2 K3.1
  have KC3 : Keep h0 T3.heap [] := KC2.trans K3 (allS (Or.inr sz_b2) all0)
  have N3 := Fr.app N1 Nq3
  refine OGo.steps st3 ?_
  show OGo p e below _ (T3.setTop (mkF m 33 #[.val (.long q1), .second, .val (.long q2), .second, .val (.long uu), .second, .val (.int p3), .val (.long s0), .second, .val (.long s1), .second, .val (.int cc), .unset, .unset, .unset, .unset, .unset, .unset] [(.ref b2)]))
  have sz_aS : h0.size ≤ aS := Nat.le_trans KC2.1 zS
  have ne_b2_aS : b2 ≠ aS := Nat.ne_of_lt (Nat.lt_of_lt_of_le A2.lt zS)
  have sz_aH : h0.size ≤ aH := Nat.le_trans KC2.1 zH
  have ne_b2_aH : b2 ≠ aH := Nat.ne_of_lt (Nat.lt_of_lt_of_le A2.lt zH)
  refine OGo.step (fun uK kK => XS.astore X3.here hx rfl (hb hby at_33) rfl rfl (l' := #[.val (.long q1), .second, .val (.long q2), .second, .val (.long uu), .second, .val (.int p3), .val (.long s0), .second, .val (.long s1), .second, .val (.int cc), .val (.ref b2), .unset, .unset, .unset, .unset, .unset]) rfl kK) ?_
  show OGo p e below _ (T3.setTop (mkF m 35 #[.val (.long q1), .second, .val (.long q2), .second, .val (.long uu), .second, .val (.int p3), .val (.long s0), .second, .val (.long s1), .second, .val (.int cc), .val (.ref b2), .unset, .unset, .unset, .unset, .unset] []))
  rcases own_c8 p3 cc ev_cc with h | h | h | h | h | h | h | h
  · skip
    subst h
    show OGo p e below _ (T3.setTop (mkF m 35 #[.val (.long q1), .second, .val (.long q2), .second, .val (.long uu), .second, .val (.int p3), .val (.long s0), .second, .val (.long s1), .second, .val (.int (0 : Int32)), .val (.ref b2), .unset, .unset, .unset, .unset, .unset] []))
    refine OGo.step (fun uK kK => XS.iload X3.here hx rfl (hb hby at_35) rfl kK) ?_
    show OGo p e below _ (T3.setTop (mkF m 37 #[.val (.long q1), .second, .val (.long q2), .second, .val (.long uu), .second, .val (.int p3), .val (.long s0), .second, .val (.long s1), .second, .val (.int (0 : Int32)), .val (.ref b2), .unset, .unset, .unset, .unset, .unset] [(.int (0 : Int32))]))
    have hc37 : (0 : Int32) = (0 : Int32) := by decide
    refine OGo.step (fun uK kK => XS.ifYes X3.here hx rfl (pc0 := 37) (pc' := 47) rfl (hb hby at_37) rfl ((if0 _ _).trans (teq hc37).1) (by decide) (by decide) kK) ?_
    show OGo p e below _ (T3.setTop (mkF m 47 #[.val (.long q1), .second, .val (.long q2), .second, .val (.long uu), .second, .val (.int p3), .val (.long s0), .second, .val (.long s1), .second, .val (.int (0 : Int32)), .val (.ref b2), .unset, .unset, .unset, .unset, .unset] []))
    refine OGo.step (fun uK kK => XS.iload X3.here hx rfl (hb hby at_47) rfl kK) ?_
    refine OGo.step (fun uK kK => XS.iconst X3.here hx rfl (hb hby at_49) kK) ?_
    show OGo p e below _ (T3.setTop (mkF m 50 #[.val (.long q1), .second, .val (.long q2), .second, .val (.long uu), .second, .val (.int p3), .val (.long s0), .second, .val (.long s1), .second, .val (.int (0 : Int32)), .val (.ref b2), .unset, .unset, .unset, .unset, .unset] [(.int (2 : Int32)), (.int (0 : Int32))]))
    have hc50 : ¬ ((0 : Int32) = (2 : Int32)) := by decide
    refine OGo.step (fun uK kK => XS.icmpNo X3.here hx rfl (hb hby at_50) rfl (feq hc50).1 kK) ?_
    show OGo p e below _ (T3.setTop (mkF m 53 #[.val (.long q1), .second, .val (.long q2), .second, .val (.long uu), .second, .val (.int p3), .val (.long s0), .second, .val (.long s1), .second, .val (.int (0 : Int32)), .val (.ref b2), .unset, .unset, .unset, .unset, .unset] []))
    refine OGo.step (fun uK kK => XS.iload X3.here hx rfl (hb hby at_53) rfl kK) ?_
    refine OGo.step (fun uK kK => XS.iconst X3.here hx rfl (hb hby at_55) kK) ?_
    show OGo p e below _ (T3.setTop (mkF m 56 #[.val (.long q1), .second, .val (.long q2), .second, .val (.long uu), .second, .val (.int p3), .val (.long s0), .second, .val (.long s1), .second, .val (.int (0 : Int32)), .val (.ref b2), .unset, .unset, .unset, .unset, .unset] [(.int (3 : Int32)), (.int (0 : Int32))]))
    have hc56 : ¬ ((0 : Int32) = (3 : Int32)) := by decide
    refine OGo.step (fun uK kK => XS.icmpNo X3.here hx rfl (hb hby at_56) rfl (feq hc56).1 kK) ?_
    show OGo p e below _ (T3.setTop (mkF m 59 #[.val (.long q1), .second, .val (.long q2), .second, .val (.long uu), .second, .val (.int p3), .val (.long s0), .second, .val (.long s1), .second, .val (.int (0 : Int32)), .val (.ref b2), .unset, .unset, .unset, .unset, .unset] []))
    refine OGo.step (fun uK kK => XS.iload X3.here hx rfl (hb hby at_59) rfl kK) ?_
    refine OGo.step (fun uK kK => XS.iconst X3.here hx rfl (hb hby at_61) kK) ?_
    show OGo p e below _ (T3.setTop (mkF m 62 #[.val (.long q1), .second, .val (.long q2), .second, .val (.long uu), .second, .val (.int p3), .val (.long s0), .second, .val (.long s1), .second, .val (.int (0 : Int32)), .val (.ref b2), .unset, .unset, .unset, .unset, .unset] [(.int (5 : Int32)), (.int (0 : Int32))]))
    have hc62 : ¬ ((0 : Int32) = (5 : Int32)) := by decide
    refine OGo.step (fun uK kK => XS.icmpNo X3.here hx rfl (hb hby at_62) rfl (feq hc62).1 kK) ?_
    show OGo p e below _ (T3.setTop (mkF m 65 #[.val (.long q1), .second, .val (.long q2), .second, .val (.long uu), .second, .val (.int p3), .val (.long s0), .second, .val (.long s1), .second, .val (.int (0 : Int32)), .val (.ref b2), .unset, .unset, .unset, .unset, .unset] []))
    refine OGo.step (fun uK kK => XS.iload X3.here hx rfl (hb hby at_65) rfl kK) ?_
    refine OGo.step (fun uK kK => XS.bipush X3.here hx rfl (hb hby at_67) kK) ?_
    show OGo p e below _ (T3.setTop (mkF m 69 #[.val (.long q1), .second, .val (.long q2), .second, .val (.long uu), .second, .val (.int p3), .val (.long s0), .second, .val (.long s1), .second, .val (.int (0 : Int32)), .val (.ref b2), .unset, .unset, .unset, .unset, .unset] [(.int (7 : Int32)), (.int (0 : Int32))]))
    have hc69 : ¬ ((0 : Int32) = (7 : Int32)) := by decide
    refine OGo.step (fun uK kK => XS.icmpYes X3.here hx rfl (pc0 := 69) (pc' := 79) rfl (hb hby at_69) rfl (feq hc69).2 (by decide) (by decide) kK) ?_
    show OGo p e below _ (T3.setTop (mkF m 79 #[.val (.long q1), .second, .val (.long q2), .second, .val (.long uu), .second, .val (.int p3), .val (.long s0), .second, .val (.long s1), .second, .val (.int (0 : Int32)), .val (.ref b2), .unset, .unset, .unset, .unset, .unset] []))
    refine OGo.step (fun uK kK => XS.iload X3.here hx rfl (hb hby at_79) rfl kK) ?_
    refine OGo.step (fun uK kK => XS.bipush X3.here hx rfl (hb hby at_81) kK) ?_
    show OGo p e below _ (T3.setTop (mkF m 83 #[.val (.long q1), .second, .val (.long q2), .second, .val (.long uu), .second, .val (.int p3), .val (.long s0), .second, .val (.long s1), .second, .val (.int (0 : Int32)), .val (.ref b2), .unset, .unset, .unset, .unset, .unset] [(.int (6 : Int32)), (.int (0 : Int32))]))
    have hc83 : ¬ ((0 : Int32) = (6 : Int32)) := by decide
    refine OGo.step (fun uK kK => XS.icmpYes X3.here hx rfl (pc0 := 83) (pc' := 93) rfl (hb hby at_83) rfl (feq hc83).2 (by decide) (by decide) kK) ?_
    show OGo p e below _ (T3.setTop (mkF m 93 #[.val (.long q1), .second, .val (.long q2), .second, .val (.long uu), .second, .val (.int p3), .val (.long s0), .second, .val (.long s1), .second, .val (.int (0 : Int32)), .val (.ref b2), .unset, .unset, .unset, .unset, .unset] []))
    refine OGo.step (fun uK kK => XS.iload X3.here hx rfl (hb hby at_93) rfl kK) ?_
    refine OGo.step (fun uK kK => XS.iconst X3.here hx rfl (hb hby at_95) kK) ?_
    show OGo p e below _ (T3.setTop (mkF m 96 #[.val (.long q1), .second, .val (.long q2), .second, .val (.long uu), .second, .val (.int p3), .val (.long s0), .second, .val (.long s1), .second, .val (.int (0 : Int32)), .val (.ref b2), .unset, .unset, .unset, .unset, .unset] [(.int (3 : Int32)), (.int (0 : Int32))]))
    have hc96 : ¬ ((0 : Int32) = (3 : Int32)) := by decide
    refine OGo.step (fun uK kK => XS.icmpNo X3.here hx rfl (hb hby at_96) rfl (feq hc96).1 kK) ?_
    show OGo p e below _ (T3.setTop (mkF m 99 #[.val (.long q1), .second, .val (.long q2), .second, .val (.long uu), .second, .val (.int p3), .val (.long s0), .second, .val (.long s1), .second, .val (.int (0 : Int32)), .val (.ref b2), .unset, .unset, .unset, .unset, .unset] []))
    refine OGo.step (fun uK kK => XS.iload X3.here hx rfl (hb hby at_99) rfl kK) ?_
    refine OGo.step (fun uK kK => XS.iconst X3.here hx rfl (hb hby at_101) kK) ?_
    show OGo p e below _ (T3.setTop (mkF m 102 #[.val (.long q1), .second, .val (.long q2), .second, .val (.long uu), .second, .val (.int p3), .val (.long s0), .second, .val (.long s1), .second, .val (.int (0 : Int32)), .val (.ref b2), .unset, .unset, .unset, .unset, .unset] [(.int (4 : Int32)), (.int (0 : Int32))]))
    have hc102 : ¬ ((0 : Int32) = (4 : Int32)) := by decide
    refine OGo.step (fun uK kK => XS.icmpNo X3.here hx rfl (hb hby at_102) rfl (feq hc102).1 kK) ?_
    show OGo p e below _ (T3.setTop (mkF m 105 #[.val (.long q1), .second, .val (.long q2), .second, .val (.long uu), .second, .val (.int p3), .val (.long s0), .second, .val (.long s1), .second, .val (.int (0 : Int32)), .val (.ref b2), .unset, .unset, .unset, .unset, .unset] []))
    refine OGo.step (fun uK kK => XS.iload X3.here hx rfl (hb hby at_105) rfl kK) ?_
    refine OGo.step (fun uK kK => XS.bipush X3.here hx rfl (hb hby at_107) kK) ?_
    show OGo p e below _ (T3.setTop (mkF m 109 #[.val (.long q1), .second, .val (.long q2), .second, .val (.long uu), .second, .val (.int p3), .val (.long s0), .second, .val (.long s1), .second, .val (.int (0 : Int32)), .val (.ref b2), .unset, .unset, .unset, .unset, .unset] [(.int (6 : Int32)), (.int (0 : Int32))]))
    have hc109 : ¬ ((0 : Int32) = (6 : Int32)) := by decide
    refine OGo.step (fun uK kK => XS.icmpNo X3.here hx rfl (hb hby at_109) rfl (feq hc109).1 kK) ?_
    show OGo p e below _ (T3.setTop (mkF m 112 #[.val (.long q1), .second, .val (.long q2), .second, .val (.long uu), .second, .val (.int p3), .val (.long s0), .second, .val (.long s1), .second, .val (.int (0 : Int32)), .val (.ref b2), .unset, .unset, .unset, .unset, .unset] []))
    refine OGo.step (fun uK kK => XS.iload X3.here hx rfl (hb hby at_112) rfl kK) ?_
    refine OGo.step (fun uK kK => XS.bipush X3.here hx rfl (hb hby at_114) kK) ?_
    show OGo p e below _ (T3.setTop (mkF m 116 #[.val (.long q1), .second, .val (.long q2), .second, .val (.long uu), .second, .val (.int p3), .val (.long s0), .second, .val (.long s1), .second, .val (.int (0 : Int32)), .val (.ref b2), .unset, .unset, .unset, .unset, .unset] [(.int (7 : Int32)), (.int (0 : Int32))]))
    have hc116 : ¬ ((0 : Int32) = (7 : Int32)) := by decide
    refine OGo.step (fun uK kK => XS.icmpYes X3.here hx rfl (pc0 := 116) (pc' := 127) rfl (hb hby at_116) rfl (feq hc116).2 (by decide) (by decide) kK) ?_
    show OGo p e below _ (T3.setTop (mkF m 127 #[.val (.long q1), .second, .val (.long q2), .second, .val (.long uu), .second, .val (.int p3), .val (.long s0), .second, .val (.long s1), .second, .val (.int (0 : Int32)), .val (.ref b2), .unset, .unset, .unset, .unset, .unset] []))
    refine OGo.step (fun uK kK => XS.iload X3.here hx rfl (hb hby at_127) rfl kK) ?_
    refine OGo.step (fun uK kK => XS.iconst X3.here hx rfl (hb hby at_129) kK) ?_
    show OGo p e below _ (T3.setTop (mkF m 130 #[.val (.long q1), .second, .val (.long q2), .second, .val (.long uu), .second, .val (.int p3), .val (.long s0), .second, .val (.long s1), .second, .val (.int (0 : Int32)), .val (.ref b2), .unset, .unset, .unset, .unset, .unset] [(.int (5 : Int32)), (.int (0 : Int32))]))
    have hc130 : ¬ ((0 : Int32) = (5 : Int32)) := by decide
    refine OGo.step (fun uK kK => XS.icmpNo X3.here hx rfl (hb hby at_130) rfl (feq hc130).1 kK) ?_
    show OGo p e below _ (T3.setTop (mkF m 133 #[.val (.long q1), .second, .val (.long q2), .second, .val (.long uu), .second, .val (.int p3), .val (.long s0), .second, .val (.long s1), .second, .val (.int (0 : Int32)), .val (.ref b2), .unset, .unset, .unset, .unset, .unset] []))
    refine OGo.step (fun uK kK => XS.iload X3.here hx rfl (hb hby at_133) rfl kK) ?_
    refine OGo.step (fun uK kK => XS.bipush X3.here hx rfl (hb hby at_135) kK) ?_
    show OGo p e below _ (T3.setTop (mkF m 137 #[.val (.long q1), .second, .val (.long q2), .second, .val (.long uu), .second, .val (.int p3), .val (.long s0), .second, .val (.long s1), .second, .val (.int (0 : Int32)), .val (.ref b2), .unset, .unset, .unset, .unset, .unset] [(.int (7 : Int32)), (.int (0 : Int32))]))
    have hc137 : ¬ ((0 : Int32) = (7 : Int32)) := by decide
    refine OGo.step (fun uK kK => XS.icmpYes X3.here hx rfl (pc0 := 137) (pc' := 148) rfl (hb hby at_137) rfl (feq hc137).2 (by decide) (by decide) kK) ?_
    show OGo p e below _ (T3.setTop (mkF m 148 #[.val (.long q1), .second, .val (.long q2), .second, .val (.long uu), .second, .val (.int p3), .val (.long s0), .second, .val (.long s1), .second, .val (.int (0 : Int32)), .val (.ref b2), .unset, .unset, .unset, .unset, .unset] []))
    refine OGo.step (fun uK kK => XS.iload X3.here hx rfl (hb hby at_148) rfl kK) ?_
    refine OGo.step (fun uK kK => XS.iconst X3.here hx rfl (hb hby at_150) kK) ?_
    show OGo p e below _ (T3.setTop (mkF m 151 #[.val (.long q1), .second, .val (.long q2), .second, .val (.long uu), .second, .val (.int p3), .val (.long s0), .second, .val (.long s1), .second, .val (.int (0 : Int32)), .val (.ref b2), .unset, .unset, .unset, .unset, .unset] [(.int (1 : Int32)), (.int (0 : Int32))]))
    have hc151 : ¬ ((0 : Int32) = (1 : Int32)) := by decide
    refine OGo.step (fun uK kK => XS.icmpNo X3.here hx rfl (hb hby at_151) rfl (feq hc151).1 kK) ?_
    show OGo p e below _ (T3.setTop (mkF m 154 #[.val (.long q1), .second, .val (.long q2), .second, .val (.long uu), .second, .val (.int p3), .val (.long s0), .second, .val (.long s1), .second, .val (.int (0 : Int32)), .val (.ref b2), .unset, .unset, .unset, .unset, .unset] []))
    refine OGo.step (fun uK kK => XS.iload X3.here hx rfl (hb hby at_154) rfl kK) ?_
    refine OGo.step (fun uK kK => XS.iconst X3.here hx rfl (hb hby at_156) kK) ?_
    show OGo p e below _ (T3.setTop (mkF m 157 #[.val (.long q1), .second, .val (.long q2), .second, .val (.long uu), .second, .val (.int p3), .val (.long s0), .second, .val (.long s1), .second, .val (.int (0 : Int32)), .val (.ref b2), .unset, .unset, .unset, .unset, .unset] [(.int (2 : Int32)), (.int (0 : Int32))]))
    have hc157 : ¬ ((0 : Int32) = (2 : Int32)) := by decide
    refine OGo.step (fun uK kK => XS.icmpNo X3.here hx rfl (hb hby at_157) rfl (feq hc157).1 kK) ?_
    show OGo p e below _ (T3.setTop (mkF m 160 #[.val (.long q1), .second, .val (.long q2), .second, .val (.long uu), .second, .val (.int p3), .val (.long s0), .second, .val (.long s1), .second, .val (.int (0 : Int32)), .val (.ref b2), .unset, .unset, .unset, .unset, .unset] []))
    refine OGo.step (fun uK kK => XS.iload X3.here hx rfl (hb hby at_160) rfl kK) ?_
    refine OGo.step (fun uK kK => XS.iconst X3.here hx rfl (hb hby at_162) kK) ?_
    show OGo p e below _ (T3.setTop (mkF m 163 #[.val (.long q1), .second, .val (.long q2), .second, .val (.long uu), .second, .val (.int p3), .val (.long s0), .second, .val (.long s1), .second, .val (.int (0 : Int32)), .val (.ref b2), .unset, .unset, .unset, .unset, .unset] [(.int (3 : Int32)), (.int (0 : Int32))]))
    have hc163 : ¬ ((0 : Int32) = (3 : Int32)) := by decide
    refine OGo.step (fun uK kK => XS.icmpNo X3.here hx rfl (hb hby at_163) rfl (feq hc163).1 kK) ?_
    show OGo p e below _ (T3.setTop (mkF m 166 #[.val (.long q1), .second, .val (.long q2), .second, .val (.long uu), .second, .val (.int p3), .val (.long s0), .second, .val (.long s1), .second, .val (.int (0 : Int32)), .val (.ref b2), .unset, .unset, .unset, .unset, .unset] []))
    refine OGo.step (fun uK kK => XS.iload X3.here hx rfl (hb hby at_166) rfl kK) ?_
    refine OGo.step (fun uK kK => XS.iconst X3.here hx rfl (hb hby at_168) kK) ?_
    show OGo p e below _ (T3.setTop (mkF m 169 #[.val (.long q1), .second, .val (.long q2), .second, .val (.long uu), .second, .val (.int p3), .val (.long s0), .second, .val (.long s1), .second, .val (.int (0 : Int32)), .val (.ref b2), .unset, .unset, .unset, .unset, .unset] [(.int (5 : Int32)), (.int (0 : Int32))]))
    have hc169 : ¬ ((0 : Int32) = (5 : Int32)) := by decide
    refine OGo.step (fun uK kK => XS.icmpNo X3.here hx rfl (hb hby at_169) rfl (feq hc169).1 kK) ?_
    show OGo p e below _ (T3.setTop (mkF m 172 #[.val (.long q1), .second, .val (.long q2), .second, .val (.long uu), .second, .val (.int p3), .val (.long s0), .second, .val (.long s1), .second, .val (.int (0 : Int32)), .val (.ref b2), .unset, .unset, .unset, .unset, .unset] []))
    refine OGo.step (fun uK kK => XS.iload X3.here hx rfl (hb hby at_172) rfl kK) ?_
    refine OGo.step (fun uK kK => XS.bipush X3.here hx rfl (hb hby at_174) kK) ?_
    show OGo p e below _ (T3.setTop (mkF m 176 #[.val (.long q1), .second, .val (.long q2), .second, .val (.long uu), .second, .val (.int p3), .val (.long s0), .second, .val (.long s1), .second, .val (.int (0 : Int32)), .val (.ref b2), .unset, .unset, .unset, .unset, .unset] [(.int (6 : Int32)), (.int (0 : Int32))]))
    have hc176 : ¬ ((0 : Int32) = (6 : Int32)) := by decide
    refine OGo.step (fun uK kK => XS.icmpYes X3.here hx rfl (pc0 := 176) (pc' := 183) rfl (hb hby at_176) rfl (feq hc176).2 (by decide) (by decide) kK) ?_
    show OGo p e below _ (T3.setTop (mkF m 183 #[.val (.long q1), .second, .val (.long q2), .second, .val (.long uu), .second, .val (.int p3), .val (.long s0), .second, .val (.long s1), .second, .val (.int (0 : Int32)), .val (.ref b2), .unset, .unset, .unset, .unset, .unset] []))
    refine OGo.step (fun uK kK => XS.iconst X3.here hx rfl (hb hby at_183) kK) ?_
    show OGo p e below _ (T3.setTop (mkF m 184 #[.val (.long q1), .second, .val (.long q2), .second, .val (.long uu), .second, .val (.int p3), .val (.long s0), .second, .val (.long s1), .second, .val (.int (0 : Int32)), .val (.ref b2), .unset, .unset, .unset, .unset, .unset] [(.int (0 : Int32))]))
    refine OGo.step (fun uK kK => XS.istore X3.here hx rfl (hb hby at_184) rfl (l' := #[.val (.long q1), .second, .val (.long q2), .second, .val (.long uu), .second, .val (.int p3), .val (.long s0), .second, .val (.long s1), .second, .val (.int (0 : Int32)), .val (.ref b2), .val (.int (0 : Int32)), .unset, .unset, .unset, .unset]) rfl kK) ?_
    refine OGo.step (fun uK kK => XS.iload X3.here hx rfl (hb hby at_186) rfl kK) ?_
    refine OGo.step (fun uK kK => XS.iconst X3.here hx rfl (hb hby at_188) kK) ?_
    show OGo p e below _ (T3.setTop (mkF m 189 #[.val (.long q1), .second, .val (.long q2), .second, .val (.long uu), .second, .val (.int p3), .val (.long s0), .second, .val (.long s1), .second, .val (.int (0 : Int32)), .val (.ref b2), .val (.int (0 : Int32)), .unset, .unset, .unset, .unset] [(.int (3 : Int32)), (.int (0 : Int32))]))
    have hc189 : ¬ ((0 : Int32) = (3 : Int32)) := by decide
    refine OGo.step (fun uK kK => XS.icmpYes X3.here hx rfl (pc0 := 189) (pc' := 197) rfl (hb hby at_189) rfl (feq hc189).2 (by decide) (by decide) kK) ?_
    show OGo p e below _ (T3.setTop (mkF m 197 #[.val (.long q1), .second, .val (.long q2), .second, .val (.long uu), .second, .val (.int p3), .val (.long s0), .second, .val (.long s1), .second, .val (.int (0 : Int32)), .val (.ref b2), .val (.int (0 : Int32)), .unset, .unset, .unset, .unset] []))
    refine OGo.step (fun uK kK => XS.lload X3.here hx rfl (hb hby at_197) rfl kK) ?_
    show OGo p e below _ (T3.setTop (mkF m 199 #[.val (.long q1), .second, .val (.long q2), .second, .val (.long uu), .second, .val (.int p3), .val (.long s0), .second, .val (.long s1), .second, .val (.int (0 : Int32)), .val (.ref b2), .val (.int (0 : Int32)), .unset, .unset, .unset, .unset] [(.long s0)]))
    refine OGo.step (fun uK kK => XS.lstore X3.here hx rfl (hb hby at_199) rfl (l' := #[.val (.long q1), .second, .val (.long q2), .second, .val (.long uu), .second, .val (.int p3), .val (.long s0), .second, .val (.long s1), .second, .val (.int (0 : Int32)), .val (.ref b2), .val (.int (0 : Int32)), .val (.long s0), .second, .unset, .unset]) rfl kK) ?_
    refine OGo.step (fun uK kK => XS.iload X3.here hx rfl (hb hby at_201) rfl kK) ?_
    show OGo p e below _ (T3.setTop (mkF m 203 #[.val (.long q1), .second, .val (.long q2), .second, .val (.long uu), .second, .val (.int p3), .val (.long s0), .second, .val (.long s1), .second, .val (.int (0 : Int32)), .val (.ref b2), .val (.int (0 : Int32)), .val (.long s0), .second, .unset, .unset] [(.int (0 : Int32))]))
    have hc203 : (0 : Int32) = (0 : Int32) := by decide
    refine OGo.step (fun uK kK => XS.ifNo X3.here hx rfl (hb hby at_203) rfl ((if0 _ _).trans (teq hc203).2) kK) ?_
    show OGo p e below _ (T3.setTop (mkF m 206 #[.val (.long q1), .second, .val (.long q2), .second, .val (.long uu), .second, .val (.int p3), .val (.long s0), .second, .val (.long s1), .second, .val (.int (0 : Int32)), .val (.ref b2), .val (.int (0 : Int32)), .val (.long s0), .second, .unset, .unset] []))
    refine OGo.step (fun uK kK => X3.ldc2J hx hown (mvT hZ (hw _ (List.mem_of_getElem? (i := 45) rfl))) rfl (hb hby at_206) kK) ?_
    show OGo p e below _ (T3.setTop (mkF m 209 #[.val (.long q1), .second, .val (.long q2), .second, .val (.long uu), .second, .val (.int p3), .val (.long s0), .second, .val (.long s1), .second, .val (.int (0 : Int32)), .val (.ref b2), .val (.int (0 : Int32)), .val (.long s0), .second, .unset, .unset] [(.long (-1 : Int64))]))
    refine OGo.step (fun uK kK => XS.lstore X3.here hx rfl (hb hby at_209) rfl (l' := #[.val (.long q1), .second, .val (.long q2), .second, .val (.long uu), .second, .val (.int p3), .val (.long s0), .second, .val (.long s1), .second, .val (.int (0 : Int32)), .val (.ref b2), .val (.int (0 : Int32)), .val (.long s0), .second, .val (.long (-1 : Int64)), .second]) rfl kK) ?_
    show OGo p e below _ (T3.setTop (mkF m 211 #[.val (.long q1), .second, .val (.long q2), .second, .val (.long uu), .second, .val (.int p3), .val (.long s0), .second, .val (.long s1), .second, .val (.int (0 : Int32)), .val (.ref b2), .val (.int (0 : Int32)), .val (.long s0), .second, .val (.long (-1 : Int64)), .second] []))
    refine OGo.step (fun uK kK => XS.goto X3.here hx rfl (pc0 := 211) (pc' := 234) rfl (hb hby at_211) (by decide) (by decide) kK) ?_
    refine OGo.step (fun uK kK => XS.aload X3.here hx rfl (hb hby at_234) rfl rfl kK) ?_
    refine OGo.step (fun uK kK => XS.lload X3.here hx rfl (hb hby at_236) rfl kK) ?_
    show OGo p e below _ (T3.setTop (mkF m 238 #[.val (.long q1), .second, .val (.long q2), .second, .val (.long uu), .second, .val (.int p3), .val (.long s0), .second, .val (.long s1), .second, .val (.int (0 : Int32)), .val (.ref b2), .val (.int (0 : Int32)), .val (.long s0), .second, .val (.long (-1 : Int64)), .second] [(.long uu), (.ref b2)]))
    obtain ⟨cq8, kq8, q8a, q8b, q8c⟩ := isOf hZ rfl A2_4
    obtain ⟨_, _, ⟨T8, Lq8, kq_8, nq_8⟩, -, X8, ⟨Lc8, hQ8, lq8, yq8, zq8⟩, st8⟩ := X3.virtualBack hx (y := (⟨"com/example/graph_of_conflicts/graphofconflicts/engine/OpenSnapshots", "earliestBefore", "(J)J"⟩ : MethodName)) (z := (⟨"com/example/graph_of_conflicts/graphofconflicts/engine/OpenSnapshots", "earliestBefore", "(J)J"⟩ : MethodName)) hown (mvT hZ (hw _ (List.mem_of_getElem? (i := 46) rfl))) (mvT hZ (hw _ (List.mem_of_getElem? (i := 47) rfl))) (notFace_of_selects (args := #[]) (mvT hZ (hw _ (List.mem_of_getElem? (i := 49) rfl)))) (mvT hZ (hw _ (List.mem_of_getElem? (i := 49) rfl))) (mvT hZ (hw _ (List.mem_of_getElem? (i := 48) rfl))) (by decide) (backOf (W := 0) (rme0 l Z a0 hw [] b2 uu  T3.heap n0 ZS3 Fn3) hZ (hw _ (List.mem_of_getElem? (i := 50) rfl)) (hw _ (List.mem_of_getElem? (i := 7) rfl)) (by decide) (by decide)) q8a q8c (g := (mkF m 238 #[.val (.long q1), .second, .val (.long q2), .second, .val (.long uu), .second, .val (.int p3), .val (.long s0), .second, .val (.long s1), .second, .val (.int (0 : Int32)), .val (.ref b2), .val (.int (0 : Int32)), .val (.long s0), .second, .val (.long (-1 : Int64)), .second] [(.long uu), (.ref b2)])) rfl (by rw [hml]; rfl) (Steps.refl _) (argsL := [(.long uu)]) (rest := []) (lenOf pd0_2 rfl) rfl (by show 2 * 0 + _ ≤ _; exact Nat.le_of_eq rfl) (hb hby at_238) (fun _ _ => ⟨rfl, rfl, (by decide : 3 + 0 ≤ _), (by decide : 19 + 0 ≤ _)⟩)
    dsimp only [Pt.U, Pt.locs, Pt.cells, Pt.slots] at X8 lq8 yq8 zq8 st8 hQ8
    subst lq8 yq8 zq8
    obtain ⟨rfl, Nq8, e8⟩ := hQ8
    have N8 := Fr.app N3 Nq8
    refine OGo.steps st8 ?_
    show OGo p e below _ (T8.setTop (mkF m 241 #[.val (.long q1), .second, .val (.long q2), .second, .val (.long uu), .second, .val (.int p3), .val (.long s0), .second, .val (.long s1), .second, .val (.int (0 : Int32)), .val (.ref b2), .val (.int (0 : Int32)), .val (.long s0), .second, .val (.long (-1 : Int64)), .second] [(.long (-1 : Int64))]))
    refine OGo.step (fun uK kK => XS.lload X8.here hx rfl (hb hby at_241) rfl kK) ?_
    show OGo p e below _ (T8.setTop (mkF m 243 #[.val (.long q1), .second, .val (.long q2), .second, .val (.long uu), .second, .val (.int p3), .val (.long s0), .second, .val (.long s1), .second, .val (.int (0 : Int32)), .val (.ref b2), .val (.int (0 : Int32)), .val (.long s0), .second, .val (.long (-1 : Int64)), .second] [(.long (-1 : Int64)), (.long (-1 : Int64))]))
    refine OGo.step (fun uK kK => XS.lcmp X8.here hx rfl (hb hby at_243) rfl kK) ?_
    show OGo p e below _ (T8.setTop (mkF m 244 #[.val (.long q1), .second, .val (.long q2), .second, .val (.long uu), .second, .val (.int p3), .val (.long s0), .second, .val (.long s1), .second, .val (.int (0 : Int32)), .val (.ref b2), .val (.int (0 : Int32)), .val (.long s0), .second, .val (.long (-1 : Int64)), .second] [(.int (lcmpW (-1 : Int64) (-1 : Int64)))]))
    have hc244 : (-1 : Int64) = (-1 : Int64) := rfl
    refine OGo.step (fun uK kK => XS.ifNo X8.here hx rfl (hb hby at_244) rfl ((if0 _ _).trans (teq ((lw_eq _ _).mpr hc244)).2) kK) ?_
    show OGo p e below _ (T8.setTop (mkF m 247 #[.val (.long q1), .second, .val (.long q2), .second, .val (.long uu), .second, .val (.int p3), .val (.long s0), .second, .val (.long s1), .second, .val (.int (0 : Int32)), .val (.ref b2), .val (.int (0 : Int32)), .val (.long s0), .second, .val (.long (-1 : Int64)), .second] []))
    refine OGo.step (fun uK kK => XS.iconst X8.here hx rfl (hb hby at_247) kK) ?_
    show OGo p e below _ (T8.setTop (mkF m 248 #[.val (.long q1), .second, .val (.long q2), .second, .val (.long uu), .second, .val (.int p3), .val (.long s0), .second, .val (.long s1), .second, .val (.int (0 : Int32)), .val (.ref b2), .val (.int (0 : Int32)), .val (.long s0), .second, .val (.long (-1 : Int64)), .second] [(.int (1 : Int32))]))
    refine OGo.step (fun uK kK => XS.goto X8.here hx rfl (pc0 := 248) (pc' := 252) rfl (hb hby at_248) (by decide) (by decide) kK) ?_
    show OGo p e below _ (T8.setTop (mkF m 252 #[.val (.long q1), .second, .val (.long q2), .second, .val (.long uu), .second, .val (.int p3), .val (.long s0), .second, .val (.long s1), .second, .val (.int (0 : Int32)), .val (.ref b2), .val (.int (0 : Int32)), .val (.long s0), .second, .val (.long (-1 : Int64)), .second] [(.int (1 : Int32))]))
    exact OGo.retN X8 hx Bd.notSynchronized (t := .boolean) Bd.returns (by simp) (hb hby at_252) (by decide) (by decide) (by show Q0 Z q1 q2 uu p3 h0 n0 _ T8.heap _; rw [e8]; exact ⟨rfl, N8⟩)
  · skip
    subst h
    show OGo p e below _ (T3.setTop (mkF m 35 #[.val (.long q1), .second, .val (.long q2), .second, .val (.long uu), .second, .val (.int p3), .val (.long s0), .second, .val (.long s1), .second, .val (.int (1 : Int32)), .val (.ref b2), .unset, .unset, .unset, .unset, .unset] []))
    refine OGo.step (fun uK kK => XS.iload X3.here hx rfl (hb hby at_35) rfl kK) ?_
    show OGo p e below _ (T3.setTop (mkF m 37 #[.val (.long q1), .second, .val (.long q2), .second, .val (.long uu), .second, .val (.int p3), .val (.long s0), .second, .val (.long s1), .second, .val (.int (1 : Int32)), .val (.ref b2), .unset, .unset, .unset, .unset, .unset] [(.int (1 : Int32))]))
    have hc37 : ¬ ((1 : Int32) = (0 : Int32)) := by decide
    refine OGo.step (fun uK kK => XS.ifNo X3.here hx rfl (hb hby at_37) rfl ((if0 _ _).trans (feq hc37).1) kK) ?_
    show OGo p e below _ (T3.setTop (mkF m 40 #[.val (.long q1), .second, .val (.long q2), .second, .val (.long uu), .second, .val (.int p3), .val (.long s0), .second, .val (.long s1), .second, .val (.int (1 : Int32)), .val (.ref b2), .unset, .unset, .unset, .unset, .unset] []))
    refine OGo.step (fun uK kK => XS.aload X3.here hx rfl (hb hby at_40) rfl rfl kK) ?_
    refine OGo.step (fun uK kK => XS.lload X3.here hx rfl (hb hby at_42) rfl kK) ?_
    show OGo p e below _ (T3.setTop (mkF m 44 #[.val (.long q1), .second, .val (.long q2), .second, .val (.long uu), .second, .val (.int p3), .val (.long s0), .second, .val (.long s1), .second, .val (.int (1 : Int32)), .val (.ref b2), .unset, .unset, .unset, .unset, .unset] [(.long s0), (.ref b2)]))
    obtain ⟨cq9, kq9, q9a, q9b, q9c⟩ := isOf hZ rfl A2_4
    obtain ⟨_, _, ⟨T9, Lq9, kq_9, nq_9⟩, -, X9, ⟨Lc9, hQ9, lq9, yq9, zq9⟩, st9⟩ := X3.virtualBack hx (y := (⟨"com/example/graph_of_conflicts/graphofconflicts/engine/OpenSnapshots", "add", "(J)V"⟩ : MethodName)) (z := (⟨"com/example/graph_of_conflicts/graphofconflicts/engine/OpenSnapshots", "add", "(J)V"⟩ : MethodName)) hown (mvT hZ (hw _ (List.mem_of_getElem? (i := 20) rfl))) (mvT hZ (hw _ (List.mem_of_getElem? (i := 21) rfl))) (notFace_of_selects (args := #[]) (mvT hZ (hw _ (List.mem_of_getElem? (i := 23) rfl)))) (mvT hZ (hw _ (List.mem_of_getElem? (i := 23) rfl))) (mvT hZ (hw _ (List.mem_of_getElem? (i := 22) rfl))) (by decide) (backOf (W := 0) (rma0 l Z a0 hw [] b2 aS kS (0 : Int64) (0 : Int64) (0 : Int64) (0 : Int64) (0 : Int64) (0 : Int64) (0 : Int64) (0 : Int64) aH kH (0 : Int32) (0 : Int32) (0 : Int32) (0 : Int32) (0 : Int32) (0 : Int32) (0 : Int32) (0 : Int32) s0 T3.heap n0 ZS3 Fs3 Fh3 Fn3 Vs3 Vh3 A2_4 gn_b2 gS gH ne_b2_aS ne_b2_aH neSH) hZ (hw _ (List.mem_of_getElem? (i := 24) rfl)) (hw _ (List.mem_of_getElem? (i := 7) rfl)) (by decide) (by decide)) q9a q9c (g := (mkF m 44 #[.val (.long q1), .second, .val (.long q2), .second, .val (.long uu), .second, .val (.int p3), .val (.long s0), .second, .val (.long s1), .second, .val (.int (1 : Int32)), .val (.ref b2), .unset, .unset, .unset, .unset, .unset] [(.long s0), (.ref b2)])) rfl (by rw [hml]; rfl) (Steps.refl _) (argsL := [(.long s0)]) (rest := []) (lenOf pd0_3 rfl) rfl (by show 2 * 0 + _ ≤ _; exact Nat.le_of_eq rfl) (hb hby at_44) (fun _ _ => ⟨rfl, rfl, (by decide : 3 + 0 ≤ _), (by decide : 19 + 0 ≤ _)⟩)
    dsimp only [Pt.U, Pt.locs, Pt.cells, Pt.slots] at X9 lq9 yq9 zq9 st9 hQ9
    subst lq9 yq9 zq9
    obtain ⟨rfl, Nq9, K9, Fs9, Fh9, Fn9, Vs9, Vh9⟩ := hQ9
    have A2_10 := (A2_4.keep K9)
    have ZS9 : n0 ≤ T9.heap.size := Nat.le_trans ZS3 K9.1
    have KC9 : Keep h0 T9.heap [] := KC3.trans K9 (allS (Or.inr sz_b2) (allS (Or.inr sz_aS) (allS (Or.inr sz_aH) all0)))
    have N9 := Fr.app N3 Nq9
    refine OGo.steps st9 ?_
    show OGo p e below _ (T9.setTop (mkF m 47 #[.val (.long q1), .second, .val (.long q2), .second, .val (.long uu), .second, .val (.int p3), .val (.long s0), .second, .val (.long s1), .second, .val (.int (1 : Int32)), .val (.ref b2), .unset, .unset, .unset, .unset, .unset] []))
    refine OGo.step (fun uK kK => XS.iload X9.here hx rfl (hb hby at_47) rfl kK) ?_
    refine OGo.step (fun uK kK => XS.iconst X9.here hx rfl (hb hby at_49) kK) ?_
    show OGo p e below _ (T9.setTop (mkF m 50 #[.val (.long q1), .second, .val (.long q2), .second, .val (.long uu), .second, .val (.int p3), .val (.long s0), .second, .val (.long s1), .second, .val (.int (1 : Int32)), .val (.ref b2), .unset, .unset, .unset, .unset, .unset] [(.int (2 : Int32)), (.int (1 : Int32))]))
    have hc50 : ¬ ((1 : Int32) = (2 : Int32)) := by decide
    refine OGo.step (fun uK kK => XS.icmpNo X9.here hx rfl (hb hby at_50) rfl (feq hc50).1 kK) ?_
    show OGo p e below _ (T9.setTop (mkF m 53 #[.val (.long q1), .second, .val (.long q2), .second, .val (.long uu), .second, .val (.int p3), .val (.long s0), .second, .val (.long s1), .second, .val (.int (1 : Int32)), .val (.ref b2), .unset, .unset, .unset, .unset, .unset] []))
    refine OGo.step (fun uK kK => XS.iload X9.here hx rfl (hb hby at_53) rfl kK) ?_
    refine OGo.step (fun uK kK => XS.iconst X9.here hx rfl (hb hby at_55) kK) ?_
    show OGo p e below _ (T9.setTop (mkF m 56 #[.val (.long q1), .second, .val (.long q2), .second, .val (.long uu), .second, .val (.int p3), .val (.long s0), .second, .val (.long s1), .second, .val (.int (1 : Int32)), .val (.ref b2), .unset, .unset, .unset, .unset, .unset] [(.int (3 : Int32)), (.int (1 : Int32))]))
    have hc56 : ¬ ((1 : Int32) = (3 : Int32)) := by decide
    refine OGo.step (fun uK kK => XS.icmpNo X9.here hx rfl (hb hby at_56) rfl (feq hc56).1 kK) ?_
    show OGo p e below _ (T9.setTop (mkF m 59 #[.val (.long q1), .second, .val (.long q2), .second, .val (.long uu), .second, .val (.int p3), .val (.long s0), .second, .val (.long s1), .second, .val (.int (1 : Int32)), .val (.ref b2), .unset, .unset, .unset, .unset, .unset] []))
    refine OGo.step (fun uK kK => XS.iload X9.here hx rfl (hb hby at_59) rfl kK) ?_
    refine OGo.step (fun uK kK => XS.iconst X9.here hx rfl (hb hby at_61) kK) ?_
    show OGo p e below _ (T9.setTop (mkF m 62 #[.val (.long q1), .second, .val (.long q2), .second, .val (.long uu), .second, .val (.int p3), .val (.long s0), .second, .val (.long s1), .second, .val (.int (1 : Int32)), .val (.ref b2), .unset, .unset, .unset, .unset, .unset] [(.int (5 : Int32)), (.int (1 : Int32))]))
    have hc62 : ¬ ((1 : Int32) = (5 : Int32)) := by decide
    refine OGo.step (fun uK kK => XS.icmpNo X9.here hx rfl (hb hby at_62) rfl (feq hc62).1 kK) ?_
    show OGo p e below _ (T9.setTop (mkF m 65 #[.val (.long q1), .second, .val (.long q2), .second, .val (.long uu), .second, .val (.int p3), .val (.long s0), .second, .val (.long s1), .second, .val (.int (1 : Int32)), .val (.ref b2), .unset, .unset, .unset, .unset, .unset] []))
    refine OGo.step (fun uK kK => XS.iload X9.here hx rfl (hb hby at_65) rfl kK) ?_
    refine OGo.step (fun uK kK => XS.bipush X9.here hx rfl (hb hby at_67) kK) ?_
    show OGo p e below _ (T9.setTop (mkF m 69 #[.val (.long q1), .second, .val (.long q2), .second, .val (.long uu), .second, .val (.int p3), .val (.long s0), .second, .val (.long s1), .second, .val (.int (1 : Int32)), .val (.ref b2), .unset, .unset, .unset, .unset, .unset] [(.int (7 : Int32)), (.int (1 : Int32))]))
    have hc69 : ¬ ((1 : Int32) = (7 : Int32)) := by decide
    refine OGo.step (fun uK kK => XS.icmpYes X9.here hx rfl (pc0 := 69) (pc' := 79) rfl (hb hby at_69) rfl (feq hc69).2 (by decide) (by decide) kK) ?_
    show OGo p e below _ (T9.setTop (mkF m 79 #[.val (.long q1), .second, .val (.long q2), .second, .val (.long uu), .second, .val (.int p3), .val (.long s0), .second, .val (.long s1), .second, .val (.int (1 : Int32)), .val (.ref b2), .unset, .unset, .unset, .unset, .unset] []))
    refine OGo.step (fun uK kK => XS.iload X9.here hx rfl (hb hby at_79) rfl kK) ?_
    refine OGo.step (fun uK kK => XS.bipush X9.here hx rfl (hb hby at_81) kK) ?_
    show OGo p e below _ (T9.setTop (mkF m 83 #[.val (.long q1), .second, .val (.long q2), .second, .val (.long uu), .second, .val (.int p3), .val (.long s0), .second, .val (.long s1), .second, .val (.int (1 : Int32)), .val (.ref b2), .unset, .unset, .unset, .unset, .unset] [(.int (6 : Int32)), (.int (1 : Int32))]))
    have hc83 : ¬ ((1 : Int32) = (6 : Int32)) := by decide
    refine OGo.step (fun uK kK => XS.icmpYes X9.here hx rfl (pc0 := 83) (pc' := 93) rfl (hb hby at_83) rfl (feq hc83).2 (by decide) (by decide) kK) ?_
    show OGo p e below _ (T9.setTop (mkF m 93 #[.val (.long q1), .second, .val (.long q2), .second, .val (.long uu), .second, .val (.int p3), .val (.long s0), .second, .val (.long s1), .second, .val (.int (1 : Int32)), .val (.ref b2), .unset, .unset, .unset, .unset, .unset] []))
    refine OGo.step (fun uK kK => XS.iload X9.here hx rfl (hb hby at_93) rfl kK) ?_
    refine OGo.step (fun uK kK => XS.iconst X9.here hx rfl (hb hby at_95) kK) ?_
    show OGo p e below _ (T9.setTop (mkF m 96 #[.val (.long q1), .second, .val (.long q2), .second, .val (.long uu), .second, .val (.int p3), .val (.long s0), .second, .val (.long s1), .second, .val (.int (1 : Int32)), .val (.ref b2), .unset, .unset, .unset, .unset, .unset] [(.int (3 : Int32)), (.int (1 : Int32))]))
    have hc96 : ¬ ((1 : Int32) = (3 : Int32)) := by decide
    refine OGo.step (fun uK kK => XS.icmpNo X9.here hx rfl (hb hby at_96) rfl (feq hc96).1 kK) ?_
    show OGo p e below _ (T9.setTop (mkF m 99 #[.val (.long q1), .second, .val (.long q2), .second, .val (.long uu), .second, .val (.int p3), .val (.long s0), .second, .val (.long s1), .second, .val (.int (1 : Int32)), .val (.ref b2), .unset, .unset, .unset, .unset, .unset] []))
    refine OGo.step (fun uK kK => XS.iload X9.here hx rfl (hb hby at_99) rfl kK) ?_
    refine OGo.step (fun uK kK => XS.iconst X9.here hx rfl (hb hby at_101) kK) ?_
    show OGo p e below _ (T9.setTop (mkF m 102 #[.val (.long q1), .second, .val (.long q2), .second, .val (.long uu), .second, .val (.int p3), .val (.long s0), .second, .val (.long s1), .second, .val (.int (1 : Int32)), .val (.ref b2), .unset, .unset, .unset, .unset, .unset] [(.int (4 : Int32)), (.int (1 : Int32))]))
    have hc102 : ¬ ((1 : Int32) = (4 : Int32)) := by decide
    refine OGo.step (fun uK kK => XS.icmpNo X9.here hx rfl (hb hby at_102) rfl (feq hc102).1 kK) ?_
    show OGo p e below _ (T9.setTop (mkF m 105 #[.val (.long q1), .second, .val (.long q2), .second, .val (.long uu), .second, .val (.int p3), .val (.long s0), .second, .val (.long s1), .second, .val (.int (1 : Int32)), .val (.ref b2), .unset, .unset, .unset, .unset, .unset] []))
    refine OGo.step (fun uK kK => XS.iload X9.here hx rfl (hb hby at_105) rfl kK) ?_
    refine OGo.step (fun uK kK => XS.bipush X9.here hx rfl (hb hby at_107) kK) ?_
    show OGo p e below _ (T9.setTop (mkF m 109 #[.val (.long q1), .second, .val (.long q2), .second, .val (.long uu), .second, .val (.int p3), .val (.long s0), .second, .val (.long s1), .second, .val (.int (1 : Int32)), .val (.ref b2), .unset, .unset, .unset, .unset, .unset] [(.int (6 : Int32)), (.int (1 : Int32))]))
    have hc109 : ¬ ((1 : Int32) = (6 : Int32)) := by decide
    refine OGo.step (fun uK kK => XS.icmpNo X9.here hx rfl (hb hby at_109) rfl (feq hc109).1 kK) ?_
    show OGo p e below _ (T9.setTop (mkF m 112 #[.val (.long q1), .second, .val (.long q2), .second, .val (.long uu), .second, .val (.int p3), .val (.long s0), .second, .val (.long s1), .second, .val (.int (1 : Int32)), .val (.ref b2), .unset, .unset, .unset, .unset, .unset] []))
    refine OGo.step (fun uK kK => XS.iload X9.here hx rfl (hb hby at_112) rfl kK) ?_
    refine OGo.step (fun uK kK => XS.bipush X9.here hx rfl (hb hby at_114) kK) ?_
    show OGo p e below _ (T9.setTop (mkF m 116 #[.val (.long q1), .second, .val (.long q2), .second, .val (.long uu), .second, .val (.int p3), .val (.long s0), .second, .val (.long s1), .second, .val (.int (1 : Int32)), .val (.ref b2), .unset, .unset, .unset, .unset, .unset] [(.int (7 : Int32)), (.int (1 : Int32))]))
    have hc116 : ¬ ((1 : Int32) = (7 : Int32)) := by decide
    refine OGo.step (fun uK kK => XS.icmpYes X9.here hx rfl (pc0 := 116) (pc' := 127) rfl (hb hby at_116) rfl (feq hc116).2 (by decide) (by decide) kK) ?_
    show OGo p e below _ (T9.setTop (mkF m 127 #[.val (.long q1), .second, .val (.long q2), .second, .val (.long uu), .second, .val (.int p3), .val (.long s0), .second, .val (.long s1), .second, .val (.int (1 : Int32)), .val (.ref b2), .unset, .unset, .unset, .unset, .unset] []))
    refine OGo.step (fun uK kK => XS.iload X9.here hx rfl (hb hby at_127) rfl kK) ?_
    refine OGo.step (fun uK kK => XS.iconst X9.here hx rfl (hb hby at_129) kK) ?_
    show OGo p e below _ (T9.setTop (mkF m 130 #[.val (.long q1), .second, .val (.long q2), .second, .val (.long uu), .second, .val (.int p3), .val (.long s0), .second, .val (.long s1), .second, .val (.int (1 : Int32)), .val (.ref b2), .unset, .unset, .unset, .unset, .unset] [(.int (5 : Int32)), (.int (1 : Int32))]))
    have hc130 : ¬ ((1 : Int32) = (5 : Int32)) := by decide
    refine OGo.step (fun uK kK => XS.icmpNo X9.here hx rfl (hb hby at_130) rfl (feq hc130).1 kK) ?_
    show OGo p e below _ (T9.setTop (mkF m 133 #[.val (.long q1), .second, .val (.long q2), .second, .val (.long uu), .second, .val (.int p3), .val (.long s0), .second, .val (.long s1), .second, .val (.int (1 : Int32)), .val (.ref b2), .unset, .unset, .unset, .unset, .unset] []))
    refine OGo.step (fun uK kK => XS.iload X9.here hx rfl (hb hby at_133) rfl kK) ?_
    refine OGo.step (fun uK kK => XS.bipush X9.here hx rfl (hb hby at_135) kK) ?_
    show OGo p e below _ (T9.setTop (mkF m 137 #[.val (.long q1), .second, .val (.long q2), .second, .val (.long uu), .second, .val (.int p3), .val (.long s0), .second, .val (.long s1), .second, .val (.int (1 : Int32)), .val (.ref b2), .unset, .unset, .unset, .unset, .unset] [(.int (7 : Int32)), (.int (1 : Int32))]))
    have hc137 : ¬ ((1 : Int32) = (7 : Int32)) := by decide
    refine OGo.step (fun uK kK => XS.icmpYes X9.here hx rfl (pc0 := 137) (pc' := 148) rfl (hb hby at_137) rfl (feq hc137).2 (by decide) (by decide) kK) ?_
    show OGo p e below _ (T9.setTop (mkF m 148 #[.val (.long q1), .second, .val (.long q2), .second, .val (.long uu), .second, .val (.int p3), .val (.long s0), .second, .val (.long s1), .second, .val (.int (1 : Int32)), .val (.ref b2), .unset, .unset, .unset, .unset, .unset] []))
    refine OGo.step (fun uK kK => XS.iload X9.here hx rfl (hb hby at_148) rfl kK) ?_
    refine OGo.step (fun uK kK => XS.iconst X9.here hx rfl (hb hby at_150) kK) ?_
    show OGo p e below _ (T9.setTop (mkF m 151 #[.val (.long q1), .second, .val (.long q2), .second, .val (.long uu), .second, .val (.int p3), .val (.long s0), .second, .val (.long s1), .second, .val (.int (1 : Int32)), .val (.ref b2), .unset, .unset, .unset, .unset, .unset] [(.int (1 : Int32)), (.int (1 : Int32))]))
    have hc151 : (1 : Int32) = (1 : Int32) := by decide
    refine OGo.step (fun uK kK => XS.icmpYes X9.here hx rfl (pc0 := 151) (pc' := 179) rfl (hb hby at_151) rfl (teq hc151).1 (by decide) (by decide) kK) ?_
    show OGo p e below _ (T9.setTop (mkF m 179 #[.val (.long q1), .second, .val (.long q2), .second, .val (.long uu), .second, .val (.int p3), .val (.long s0), .second, .val (.long s1), .second, .val (.int (1 : Int32)), .val (.ref b2), .unset, .unset, .unset, .unset, .unset] []))
    refine OGo.step (fun uK kK => XS.iconst X9.here hx rfl (hb hby at_179) kK) ?_
    show OGo p e below _ (T9.setTop (mkF m 180 #[.val (.long q1), .second, .val (.long q2), .second, .val (.long uu), .second, .val (.int p3), .val (.long s0), .second, .val (.long s1), .second, .val (.int (1 : Int32)), .val (.ref b2), .unset, .unset, .unset, .unset, .unset] [(.int (1 : Int32))]))
    refine OGo.step (fun uK kK => XS.goto X9.here hx rfl (pc0 := 180) (pc' := 184) rfl (hb hby at_180) (by decide) (by decide) kK) ?_
    show OGo p e below _ (T9.setTop (mkF m 184 #[.val (.long q1), .second, .val (.long q2), .second, .val (.long uu), .second, .val (.int p3), .val (.long s0), .second, .val (.long s1), .second, .val (.int (1 : Int32)), .val (.ref b2), .unset, .unset, .unset, .unset, .unset] [(.int (1 : Int32))]))
    refine OGo.step (fun uK kK => XS.istore X9.here hx rfl (hb hby at_184) rfl (l' := #[.val (.long q1), .second, .val (.long q2), .second, .val (.long uu), .second, .val (.int p3), .val (.long s0), .second, .val (.long s1), .second, .val (.int (1 : Int32)), .val (.ref b2), .val (.int (1 : Int32)), .unset, .unset, .unset, .unset]) rfl kK) ?_
    refine OGo.step (fun uK kK => XS.iload X9.here hx rfl (hb hby at_186) rfl kK) ?_
    refine OGo.step (fun uK kK => XS.iconst X9.here hx rfl (hb hby at_188) kK) ?_
    show OGo p e below _ (T9.setTop (mkF m 189 #[.val (.long q1), .second, .val (.long q2), .second, .val (.long uu), .second, .val (.int p3), .val (.long s0), .second, .val (.long s1), .second, .val (.int (1 : Int32)), .val (.ref b2), .val (.int (1 : Int32)), .unset, .unset, .unset, .unset] [(.int (3 : Int32)), (.int (1 : Int32))]))
    have hc189 : ¬ ((1 : Int32) = (3 : Int32)) := by decide
    refine OGo.step (fun uK kK => XS.icmpYes X9.here hx rfl (pc0 := 189) (pc' := 197) rfl (hb hby at_189) rfl (feq hc189).2 (by decide) (by decide) kK) ?_
    show OGo p e below _ (T9.setTop (mkF m 197 #[.val (.long q1), .second, .val (.long q2), .second, .val (.long uu), .second, .val (.int p3), .val (.long s0), .second, .val (.long s1), .second, .val (.int (1 : Int32)), .val (.ref b2), .val (.int (1 : Int32)), .unset, .unset, .unset, .unset] []))
    refine OGo.step (fun uK kK => XS.lload X9.here hx rfl (hb hby at_197) rfl kK) ?_
    show OGo p e below _ (T9.setTop (mkF m 199 #[.val (.long q1), .second, .val (.long q2), .second, .val (.long uu), .second, .val (.int p3), .val (.long s0), .second, .val (.long s1), .second, .val (.int (1 : Int32)), .val (.ref b2), .val (.int (1 : Int32)), .unset, .unset, .unset, .unset] [(.long s0)]))
    refine OGo.step (fun uK kK => XS.lstore X9.here hx rfl (hb hby at_199) rfl (l' := #[.val (.long q1), .second, .val (.long q2), .second, .val (.long uu), .second, .val (.int p3), .val (.long s0), .second, .val (.long s1), .second, .val (.int (1 : Int32)), .val (.ref b2), .val (.int (1 : Int32)), .val (.long s0), .second, .unset, .unset]) rfl kK) ?_
    refine OGo.step (fun uK kK => XS.iload X9.here hx rfl (hb hby at_201) rfl kK) ?_
    show OGo p e below _ (T9.setTop (mkF m 203 #[.val (.long q1), .second, .val (.long q2), .second, .val (.long uu), .second, .val (.int p3), .val (.long s0), .second, .val (.long s1), .second, .val (.int (1 : Int32)), .val (.ref b2), .val (.int (1 : Int32)), .val (.long s0), .second, .unset, .unset] [(.int (1 : Int32))]))
    have hc203 : ¬ ((1 : Int32) = (0 : Int32)) := by decide
    refine OGo.step (fun uK kK => XS.ifYes X9.here hx rfl (pc0 := 203) (pc' := 214) rfl (hb hby at_203) rfl ((if0 _ _).trans (feq hc203).2) (by decide) (by decide) kK) ?_
    show OGo p e below _ (T9.setTop (mkF m 214 #[.val (.long q1), .second, .val (.long q2), .second, .val (.long uu), .second, .val (.int p3), .val (.long s0), .second, .val (.long s1), .second, .val (.int (1 : Int32)), .val (.ref b2), .val (.int (1 : Int32)), .val (.long s0), .second, .unset, .unset] []))
    refine OGo.step (fun uK kK => XS.lload X9.here hx rfl (hb hby at_214) rfl kK) ?_
    refine OGo.step (fun uK kK => XS.lload X9.here hx rfl (hb hby at_216) rfl kK) ?_
    show OGo p e below _ (T9.setTop (mkF m 218 #[.val (.long q1), .second, .val (.long q2), .second, .val (.long uu), .second, .val (.int p3), .val (.long s0), .second, .val (.long s1), .second, .val (.int (1 : Int32)), .val (.ref b2), .val (.int (1 : Int32)), .val (.long s0), .second, .unset, .unset] [(.long uu), (.long s0)]))
    refine OGo.step (fun uK kK => XS.lcmp X9.here hx rfl (hb hby at_218) rfl kK) ?_
    show OGo p e below _ (T9.setTop (mkF m 219 #[.val (.long q1), .second, .val (.long q2), .second, .val (.long uu), .second, .val (.int p3), .val (.long s0), .second, .val (.long s1), .second, .val (.int (1 : Int32)), .val (.ref b2), .val (.int (1 : Int32)), .val (.long s0), .second, .unset, .unset] [(.int (lcmpW s0 uu))]))
    refine OGo.step (t' := T9.setTop (mkF m 234 #[.val (.long q1), .second, .val (.long q2), .second, .val (.long uu), .second, .val (.int p3), .val (.long s0), .second, .val (.long s1), .second, .val (.int (1 : Int32)), .val (.ref b2), .val (.int (1 : Int32)), .val (.long s0), .second, .val (.long (if s0 < uu then s0 else (-1 : Int64))), .second] [])) (fun uK kK => ?_) ?_
    · show Steps p.tables e below (T9.setTop (mkF m 219 #[.val (.long q1), .second, .val (.long q2), .second, .val (.long uu), .second, .val (.int p3), .val (.long s0), .second, .val (.long s1), .second, .val (.int (1 : Int32)), .val (.ref b2), .val (.int (1 : Int32)), .val (.long s0), .second, .unset, .unset] [(.int (lcmpW s0 uu))])) _
      by_cases hm219_16 : s0 < uu
      · try rw [if_pos hm219_16] at kK
        refine XS.ifNo X9.here hx rfl (hb hby at_219) rfl ((if0 _ _).trans (tlt ((lw_lt _ _).mpr hm219_16)).2.1) ?_
        refine XS.lload X9.here hx rfl (hb hby at_222) rfl ?_
        show Steps p.tables e below (T9.setTop (mkF m 224 #[.val (.long q1), .second, .val (.long q2), .second, .val (.long uu), .second, .val (.int p3), .val (.long s0), .second, .val (.long s1), .second, .val (.int (1 : Int32)), .val (.ref b2), .val (.int (1 : Int32)), .val (.long s0), .second, .unset, .unset] [(.long s0)])) _
        refine XS.lstore X9.here hx rfl (hb hby at_224) rfl (l' := #[.val (.long q1), .second, .val (.long q2), .second, .val (.long uu), .second, .val (.int p3), .val (.long s0), .second, .val (.long s1), .second, .val (.int (1 : Int32)), .val (.ref b2), .val (.int (1 : Int32)), .val (.long s0), .second, .val (.long s0), .second]) rfl ?_
        show Steps p.tables e below (T9.setTop (mkF m 226 #[.val (.long q1), .second, .val (.long q2), .second, .val (.long uu), .second, .val (.int p3), .val (.long s0), .second, .val (.long s1), .second, .val (.int (1 : Int32)), .val (.ref b2), .val (.int (1 : Int32)), .val (.long s0), .second, .val (.long s0), .second] [])) _
        refine XS.goto X9.here hx rfl (pc0 := 226) (pc' := 234) rfl (hb hby at_226) (by decide) (by decide) ?_
        show Steps p.tables e below (T9.setTop (mkF m 234 #[.val (.long q1), .second, .val (.long q2), .second, .val (.long uu), .second, .val (.int p3), .val (.long s0), .second, .val (.long s1), .second, .val (.int (1 : Int32)), .val (.ref b2), .val (.int (1 : Int32)), .val (.long s0), .second, .val (.long s0), .second] [])) _
        exact kK
      · try rw [if_neg hm219_16] at kK
        refine XS.ifYes X9.here hx rfl (pc0 := 219) (pc' := 229) rfl (hb hby at_219) rfl ((if0 _ _).trans (flt (fun q => hm219_16 ((lw_lt _ _).mp q))).2.1) (by decide) (by decide) ?_
        refine X9.ldc2J hx hown (mvT hZ (hw _ (List.mem_of_getElem? (i := 45) rfl))) rfl (hb hby at_229) ?_
        show Steps p.tables e below (T9.setTop (mkF m 232 #[.val (.long q1), .second, .val (.long q2), .second, .val (.long uu), .second, .val (.int p3), .val (.long s0), .second, .val (.long s1), .second, .val (.int (1 : Int32)), .val (.ref b2), .val (.int (1 : Int32)), .val (.long s0), .second, .unset, .unset] [(.long (-1 : Int64))])) _
        refine XS.lstore X9.here hx rfl (hb hby at_232) rfl (l' := #[.val (.long q1), .second, .val (.long q2), .second, .val (.long uu), .second, .val (.int p3), .val (.long s0), .second, .val (.long s1), .second, .val (.int (1 : Int32)), .val (.ref b2), .val (.int (1 : Int32)), .val (.long s0), .second, .val (.long (-1 : Int64)), .second]) rfl ?_
        show Steps p.tables e below (T9.setTop (mkF m 234 #[.val (.long q1), .second, .val (.long q2), .second, .val (.long uu), .second, .val (.int p3), .val (.long s0), .second, .val (.long s1), .second, .val (.int (1 : Int32)), .val (.ref b2), .val (.int (1 : Int32)), .val (.long s0), .second, .val (.long (-1 : Int64)), .second] [])) _
        exact kK
    show OGo p e below _ (T9.setTop (mkF m 234 #[.val (.long q1), .second, .val (.long q2), .second, .val (.long uu), .second, .val (.int p3), .val (.long s0), .second, .val (.long s1), .second, .val (.int (1 : Int32)), .val (.ref b2), .val (.int (1 : Int32)), .val (.long s0), .second, .val (.long (if s0 < uu then s0 else (-1 : Int64))), .second] []))
    refine OGo.step (fun uK kK => XS.aload X9.here hx rfl (hb hby at_234) rfl rfl kK) ?_
    refine OGo.step (fun uK kK => XS.lload X9.here hx rfl (hb hby at_236) rfl kK) ?_
    show OGo p e below _ (T9.setTop (mkF m 238 #[.val (.long q1), .second, .val (.long q2), .second, .val (.long uu), .second, .val (.int p3), .val (.long s0), .second, .val (.long s1), .second, .val (.int (1 : Int32)), .val (.ref b2), .val (.int (1 : Int32)), .val (.long s0), .second, .val (.long (if s0 < uu then s0 else (-1 : Int64))), .second] [(.long uu), (.ref b2)]))
    obtain ⟨cq17, kq17, q17a, q17b, q17c⟩ := isOf hZ rfl A2_10
    obtain ⟨_, _, ⟨T17, Lq17, kq_17, nq_17⟩, -, X17, ⟨Lc17, hQ17, lq17, yq17, zq17⟩, st17⟩ := X9.virtualBack hx (y := (⟨"com/example/graph_of_conflicts/graphofconflicts/engine/OpenSnapshots", "earliestBefore", "(J)J"⟩ : MethodName)) (z := (⟨"com/example/graph_of_conflicts/graphofconflicts/engine/OpenSnapshots", "earliestBefore", "(J)J"⟩ : MethodName)) hown (mvT hZ (hw _ (List.mem_of_getElem? (i := 46) rfl))) (mvT hZ (hw _ (List.mem_of_getElem? (i := 47) rfl))) (notFace_of_selects (args := #[]) (mvT hZ (hw _ (List.mem_of_getElem? (i := 49) rfl)))) (mvT hZ (hw _ (List.mem_of_getElem? (i := 49) rfl))) (mvT hZ (hw _ (List.mem_of_getElem? (i := 48) rfl))) (by decide) (backOf (W := 0) (rme1 l Z a0 hw [] b2 uu aS kS s0 (0 : Int64) (0 : Int64) (0 : Int64) (0 : Int64) (0 : Int64) (0 : Int64) (0 : Int64) T9.heap n0 ZS9 Fs9 Fn9 Vs9) hZ (hw _ (List.mem_of_getElem? (i := 50) rfl)) (hw _ (List.mem_of_getElem? (i := 7) rfl)) (by decide) (by decide)) q17a q17c (g := (mkF m 238 #[.val (.long q1), .second, .val (.long q2), .second, .val (.long uu), .second, .val (.int p3), .val (.long s0), .second, .val (.long s1), .second, .val (.int (1 : Int32)), .val (.ref b2), .val (.int (1 : Int32)), .val (.long s0), .second, .val (.long (if s0 < uu then s0 else (-1 : Int64))), .second] [(.long uu), (.ref b2)])) rfl (by rw [hml]; rfl) (Steps.refl _) (argsL := [(.long uu)]) (rest := []) (lenOf pd0_2 rfl) rfl (by show 2 * 0 + _ ≤ _; exact Nat.le_of_eq rfl) (hb hby at_238) (fun _ _ => ⟨rfl, rfl, (by decide : 3 + 0 ≤ _), (by decide : 19 + 0 ≤ _)⟩)
    dsimp only [Pt.U, Pt.locs, Pt.cells, Pt.slots] at X17 lq17 yq17 zq17 st17 hQ17
    subst lq17 yq17 zq17
    obtain ⟨rfl, Nq17, e17⟩ := hQ17
    have N17 := Fr.app N9 Nq17
    refine OGo.steps st17 ?_
    show OGo p e below _ (T17.setTop (mkF m 241 #[.val (.long q1), .second, .val (.long q2), .second, .val (.long uu), .second, .val (.int p3), .val (.long s0), .second, .val (.long s1), .second, .val (.int (1 : Int32)), .val (.ref b2), .val (.int (1 : Int32)), .val (.long s0), .second, .val (.long (if s0 < uu then s0 else (-1 : Int64))), .second] [(.long (if s0 < uu then s0 else (-1 : Int64)))]))
    refine OGo.step (fun uK kK => XS.lload X17.here hx rfl (hb hby at_241) rfl kK) ?_
    show OGo p e below _ (T17.setTop (mkF m 243 #[.val (.long q1), .second, .val (.long q2), .second, .val (.long uu), .second, .val (.int p3), .val (.long s0), .second, .val (.long s1), .second, .val (.int (1 : Int32)), .val (.ref b2), .val (.int (1 : Int32)), .val (.long s0), .second, .val (.long (if s0 < uu then s0 else (-1 : Int64))), .second] [(.long (if s0 < uu then s0 else (-1 : Int64))), (.long (if s0 < uu then s0 else (-1 : Int64)))]))
    refine OGo.step (fun uK kK => XS.lcmp X17.here hx rfl (hb hby at_243) rfl kK) ?_
    show OGo p e below _ (T17.setTop (mkF m 244 #[.val (.long q1), .second, .val (.long q2), .second, .val (.long uu), .second, .val (.int p3), .val (.long s0), .second, .val (.long s1), .second, .val (.int (1 : Int32)), .val (.ref b2), .val (.int (1 : Int32)), .val (.long s0), .second, .val (.long (if s0 < uu then s0 else (-1 : Int64))), .second] [(.int (lcmpW (if s0 < uu then s0 else (-1 : Int64)) (if s0 < uu then s0 else (-1 : Int64))))]))
    have hc244 : (if s0 < uu then s0 else (-1 : Int64)) = (if s0 < uu then s0 else (-1 : Int64)) := rfl
    refine OGo.step (fun uK kK => XS.ifNo X17.here hx rfl (hb hby at_244) rfl ((if0 _ _).trans (teq ((lw_eq _ _).mpr hc244)).2) kK) ?_
    show OGo p e below _ (T17.setTop (mkF m 247 #[.val (.long q1), .second, .val (.long q2), .second, .val (.long uu), .second, .val (.int p3), .val (.long s0), .second, .val (.long s1), .second, .val (.int (1 : Int32)), .val (.ref b2), .val (.int (1 : Int32)), .val (.long s0), .second, .val (.long (if s0 < uu then s0 else (-1 : Int64))), .second] []))
    refine OGo.step (fun uK kK => XS.iconst X17.here hx rfl (hb hby at_247) kK) ?_
    show OGo p e below _ (T17.setTop (mkF m 248 #[.val (.long q1), .second, .val (.long q2), .second, .val (.long uu), .second, .val (.int p3), .val (.long s0), .second, .val (.long s1), .second, .val (.int (1 : Int32)), .val (.ref b2), .val (.int (1 : Int32)), .val (.long s0), .second, .val (.long (if s0 < uu then s0 else (-1 : Int64))), .second] [(.int (1 : Int32))]))
    refine OGo.step (fun uK kK => XS.goto X17.here hx rfl (pc0 := 248) (pc' := 252) rfl (hb hby at_248) (by decide) (by decide) kK) ?_
    show OGo p e below _ (T17.setTop (mkF m 252 #[.val (.long q1), .second, .val (.long q2), .second, .val (.long uu), .second, .val (.int p3), .val (.long s0), .second, .val (.long s1), .second, .val (.int (1 : Int32)), .val (.ref b2), .val (.int (1 : Int32)), .val (.long s0), .second, .val (.long (if s0 < uu then s0 else (-1 : Int64))), .second] [(.int (1 : Int32))]))
    exact OGo.retN X17 hx Bd.notSynchronized (t := .boolean) Bd.returns (by simp) (hb hby at_252) (by decide) (by decide) (by show Q0 Z q1 q2 uu p3 h0 n0 _ T17.heap _; rw [e17]; exact ⟨rfl, N17⟩)
  · skip
    subst h
    show OGo p e below _ (T3.setTop (mkF m 35 #[.val (.long q1), .second, .val (.long q2), .second, .val (.long uu), .second, .val (.int p3), .val (.long s0), .second, .val (.long s1), .second, .val (.int (2 : Int32)), .val (.ref b2), .unset, .unset, .unset, .unset, .unset] []))
    rcases own_max s0 _ s1 ev_s1 with hlt | heq
    · skip
      refine OGo.step (fun uK kK => XS.iload X3.here hx rfl (hb hby at_35) rfl kK) ?_
      show OGo p e below _ (T3.setTop (mkF m 37 #[.val (.long q1), .second, .val (.long q2), .second, .val (.long uu), .second, .val (.int p3), .val (.long s0), .second, .val (.long s1), .second, .val (.int (2 : Int32)), .val (.ref b2), .unset, .unset, .unset, .unset, .unset] [(.int (2 : Int32))]))
      have hc37 : ¬ ((2 : Int32) = (0 : Int32)) := by decide
      refine OGo.step (fun uK kK => XS.ifNo X3.here hx rfl (hb hby at_37) rfl ((if0 _ _).trans (feq hc37).1) kK) ?_
      show OGo p e below _ (T3.setTop (mkF m 40 #[.val (.long q1), .second, .val (.long q2), .second, .val (.long uu), .second, .val (.int p3), .val (.long s0), .second, .val (.long s1), .second, .val (.int (2 : Int32)), .val (.ref b2), .unset, .unset, .unset, .unset, .unset] []))
      refine OGo.step (fun uK kK => XS.aload X3.here hx rfl (hb hby at_40) rfl rfl kK) ?_
      refine OGo.step (fun uK kK => XS.lload X3.here hx rfl (hb hby at_42) rfl kK) ?_
      show OGo p e below _ (T3.setTop (mkF m 44 #[.val (.long q1), .second, .val (.long q2), .second, .val (.long uu), .second, .val (.int p3), .val (.long s0), .second, .val (.long s1), .second, .val (.int (2 : Int32)), .val (.ref b2), .unset, .unset, .unset, .unset, .unset] [(.long s0), (.ref b2)]))
      obtain ⟨cq18, kq18, q18a, q18b, q18c⟩ := isOf hZ rfl A2_4
      obtain ⟨_, _, ⟨T18, Lq18, kq_18, nq_18⟩, -, X18, ⟨Lc18, hQ18, lq18, yq18, zq18⟩, st18⟩ := X3.virtualBack hx (y := (⟨"com/example/graph_of_conflicts/graphofconflicts/engine/OpenSnapshots", "add", "(J)V"⟩ : MethodName)) (z := (⟨"com/example/graph_of_conflicts/graphofconflicts/engine/OpenSnapshots", "add", "(J)V"⟩ : MethodName)) hown (mvT hZ (hw _ (List.mem_of_getElem? (i := 20) rfl))) (mvT hZ (hw _ (List.mem_of_getElem? (i := 21) rfl))) (notFace_of_selects (args := #[]) (mvT hZ (hw _ (List.mem_of_getElem? (i := 23) rfl)))) (mvT hZ (hw _ (List.mem_of_getElem? (i := 23) rfl))) (mvT hZ (hw _ (List.mem_of_getElem? (i := 22) rfl))) (by decide) (backOf (W := 0) (rma0 l Z a0 hw [] b2 aS kS (0 : Int64) (0 : Int64) (0 : Int64) (0 : Int64) (0 : Int64) (0 : Int64) (0 : Int64) (0 : Int64) aH kH (0 : Int32) (0 : Int32) (0 : Int32) (0 : Int32) (0 : Int32) (0 : Int32) (0 : Int32) (0 : Int32) s0 T3.heap n0 ZS3 Fs3 Fh3 Fn3 Vs3 Vh3 A2_4 gn_b2 gS gH ne_b2_aS ne_b2_aH neSH) hZ (hw _ (List.mem_of_getElem? (i := 24) rfl)) (hw _ (List.mem_of_getElem? (i := 7) rfl)) (by decide) (by decide)) q18a q18c (g := (mkF m 44 #[.val (.long q1), .second, .val (.long q2), .second, .val (.long uu), .second, .val (.int p3), .val (.long s0), .second, .val (.long s1), .second, .val (.int (2 : Int32)), .val (.ref b2), .unset, .unset, .unset, .unset, .unset] [(.long s0), (.ref b2)])) rfl (by rw [hml]; rfl) (Steps.refl _) (argsL := [(.long s0)]) (rest := []) (lenOf pd0_3 rfl) rfl (by show 2 * 0 + _ ≤ _; exact Nat.le_of_eq rfl) (hb hby at_44) (fun _ _ => ⟨rfl, rfl, (by decide : 3 + 0 ≤ _), (by decide : 19 + 0 ≤ _)⟩)
      dsimp only [Pt.U, Pt.locs, Pt.cells, Pt.slots] at X18 lq18 yq18 zq18 st18 hQ18
      subst lq18 yq18 zq18
      obtain ⟨rfl, Nq18, K18, Fs18, Fh18, Fn18, Vs18, Vh18⟩ := hQ18
      have A2_19 := (A2_4.keep K18)
      have ZS18 : n0 ≤ T18.heap.size := Nat.le_trans ZS3 K18.1
      have KC18 : Keep h0 T18.heap [] := KC3.trans K18 (allS (Or.inr sz_b2) (allS (Or.inr sz_aS) (allS (Or.inr sz_aH) all0)))
      have N18 := Fr.app N3 Nq18
      refine OGo.steps st18 ?_
      show OGo p e below _ (T18.setTop (mkF m 47 #[.val (.long q1), .second, .val (.long q2), .second, .val (.long uu), .second, .val (.int p3), .val (.long s0), .second, .val (.long s1), .second, .val (.int (2 : Int32)), .val (.ref b2), .unset, .unset, .unset, .unset, .unset] []))
      refine OGo.step (fun uK kK => XS.iload X18.here hx rfl (hb hby at_47) rfl kK) ?_
      refine OGo.step (fun uK kK => XS.iconst X18.here hx rfl (hb hby at_49) kK) ?_
      show OGo p e below _ (T18.setTop (mkF m 50 #[.val (.long q1), .second, .val (.long q2), .second, .val (.long uu), .second, .val (.int p3), .val (.long s0), .second, .val (.long s1), .second, .val (.int (2 : Int32)), .val (.ref b2), .unset, .unset, .unset, .unset, .unset] [(.int (2 : Int32)), (.int (2 : Int32))]))
      have hc50 : (2 : Int32) = (2 : Int32) := by decide
      refine OGo.step (fun uK kK => XS.icmpYes X18.here hx rfl (pc0 := 50) (pc' := 72) rfl (hb hby at_50) rfl (teq hc50).1 (by decide) (by decide) kK) ?_
      show OGo p e below _ (T18.setTop (mkF m 72 #[.val (.long q1), .second, .val (.long q2), .second, .val (.long uu), .second, .val (.int p3), .val (.long s0), .second, .val (.long s1), .second, .val (.int (2 : Int32)), .val (.ref b2), .unset, .unset, .unset, .unset, .unset] []))
      refine OGo.step (fun uK kK => XS.aload X18.here hx rfl (hb hby at_72) rfl rfl kK) ?_
      refine OGo.step (fun uK kK => XS.lload X18.here hx rfl (hb hby at_74) rfl kK) ?_
      show OGo p e below _ (T18.setTop (mkF m 76 #[.val (.long q1), .second, .val (.long q2), .second, .val (.long uu), .second, .val (.int p3), .val (.long s0), .second, .val (.long s1), .second, .val (.int (2 : Int32)), .val (.ref b2), .unset, .unset, .unset, .unset, .unset] [(.long s1), (.ref b2)]))
      obtain ⟨cq25, kq25, q25a, q25b, q25c⟩ := isOf hZ rfl A2_19
      obtain ⟨_, _, ⟨T25, Lq25, kq_25, nq_25⟩, -, X25, ⟨Lc25, hQ25, lq25, yq25, zq25⟩, st25⟩ := X18.virtualBack hx (y := (⟨"com/example/graph_of_conflicts/graphofconflicts/engine/OpenSnapshots", "add", "(J)V"⟩ : MethodName)) (z := (⟨"com/example/graph_of_conflicts/graphofconflicts/engine/OpenSnapshots", "add", "(J)V"⟩ : MethodName)) hown (mvT hZ (hw _ (List.mem_of_getElem? (i := 20) rfl))) (mvT hZ (hw _ (List.mem_of_getElem? (i := 21) rfl))) (notFace_of_selects (args := #[]) (mvT hZ (hw _ (List.mem_of_getElem? (i := 23) rfl)))) (mvT hZ (hw _ (List.mem_of_getElem? (i := 23) rfl))) (mvT hZ (hw _ (List.mem_of_getElem? (i := 22) rfl))) (by decide) (backOf (W := 0) (rma1 l Z a0 hw [] b2 aS kS s0 (0 : Int64) (0 : Int64) (0 : Int64) (0 : Int64) (0 : Int64) (0 : Int64) (0 : Int64) aH kH (1 : Int32) (0 : Int32) (0 : Int32) (0 : Int32) (0 : Int32) (0 : Int32) (0 : Int32) (0 : Int32) s1 T18.heap n0 ZS18 Fs18 Fh18 Fn18 Vs18 Vh18 A2_19 gn_b2 gS gH ne_b2_aS ne_b2_aH neSH hlt) hZ (hw _ (List.mem_of_getElem? (i := 24) rfl)) (hw _ (List.mem_of_getElem? (i := 7) rfl)) (by decide) (by decide)) q25a q25c (g := (mkF m 76 #[.val (.long q1), .second, .val (.long q2), .second, .val (.long uu), .second, .val (.int p3), .val (.long s0), .second, .val (.long s1), .second, .val (.int (2 : Int32)), .val (.ref b2), .unset, .unset, .unset, .unset, .unset] [(.long s1), (.ref b2)])) rfl (by rw [hml]; rfl) (Steps.refl _) (argsL := [(.long s1)]) (rest := []) (lenOf pd0_3 rfl) rfl (by show 2 * 0 + _ ≤ _; exact Nat.le_of_eq rfl) (hb hby at_76) (fun _ _ => ⟨rfl, rfl, (by decide : 3 + 0 ≤ _), (by decide : 19 + 0 ≤ _)⟩)
      dsimp only [Pt.U, Pt.locs, Pt.cells, Pt.slots] at X25 lq25 yq25 zq25 st25 hQ25
      subst lq25 yq25 zq25
      obtain ⟨rfl, Nq25, K25, Fs25, Fh25, Fn25, Vs25, Vh25⟩ := hQ25
      have A2_26 := (A2_19.keep K25)
      have ZS25 : n0 ≤ T25.heap.size := Nat.le_trans ZS18 K25.1
      have KC25 : Keep h0 T25.heap [] := KC18.trans K25 (allS (Or.inr sz_b2) (allS (Or.inr sz_aS) (allS (Or.inr sz_aH) all0)))
      have N25 := Fr.app N18 Nq25
      refine OGo.steps st25 ?_
      show OGo p e below _ (T25.setTop (mkF m 79 #[.val (.long q1), .second, .val (.long q2), .second, .val (.long uu), .second, .val (.int p3), .val (.long s0), .second, .val (.long s1), .second, .val (.int (2 : Int32)), .val (.ref b2), .unset, .unset, .unset, .unset, .unset] []))
      refine OGo.step (fun uK kK => XS.iload X25.here hx rfl (hb hby at_79) rfl kK) ?_
      refine OGo.step (fun uK kK => XS.bipush X25.here hx rfl (hb hby at_81) kK) ?_
      show OGo p e below _ (T25.setTop (mkF m 83 #[.val (.long q1), .second, .val (.long q2), .second, .val (.long uu), .second, .val (.int p3), .val (.long s0), .second, .val (.long s1), .second, .val (.int (2 : Int32)), .val (.ref b2), .unset, .unset, .unset, .unset, .unset] [(.int (6 : Int32)), (.int (2 : Int32))]))
      have hc83 : ¬ ((2 : Int32) = (6 : Int32)) := by decide
      refine OGo.step (fun uK kK => XS.icmpYes X25.here hx rfl (pc0 := 83) (pc' := 93) rfl (hb hby at_83) rfl (feq hc83).2 (by decide) (by decide) kK) ?_
      show OGo p e below _ (T25.setTop (mkF m 93 #[.val (.long q1), .second, .val (.long q2), .second, .val (.long uu), .second, .val (.int p3), .val (.long s0), .second, .val (.long s1), .second, .val (.int (2 : Int32)), .val (.ref b2), .unset, .unset, .unset, .unset, .unset] []))
      refine OGo.step (fun uK kK => XS.iload X25.here hx rfl (hb hby at_93) rfl kK) ?_
      refine OGo.step (fun uK kK => XS.iconst X25.here hx rfl (hb hby at_95) kK) ?_
      show OGo p e below _ (T25.setTop (mkF m 96 #[.val (.long q1), .second, .val (.long q2), .second, .val (.long uu), .second, .val (.int p3), .val (.long s0), .second, .val (.long s1), .second, .val (.int (2 : Int32)), .val (.ref b2), .unset, .unset, .unset, .unset, .unset] [(.int (3 : Int32)), (.int (2 : Int32))]))
      have hc96 : ¬ ((2 : Int32) = (3 : Int32)) := by decide
      refine OGo.step (fun uK kK => XS.icmpNo X25.here hx rfl (hb hby at_96) rfl (feq hc96).1 kK) ?_
      show OGo p e below _ (T25.setTop (mkF m 99 #[.val (.long q1), .second, .val (.long q2), .second, .val (.long uu), .second, .val (.int p3), .val (.long s0), .second, .val (.long s1), .second, .val (.int (2 : Int32)), .val (.ref b2), .unset, .unset, .unset, .unset, .unset] []))
      refine OGo.step (fun uK kK => XS.iload X25.here hx rfl (hb hby at_99) rfl kK) ?_
      refine OGo.step (fun uK kK => XS.iconst X25.here hx rfl (hb hby at_101) kK) ?_
      show OGo p e below _ (T25.setTop (mkF m 102 #[.val (.long q1), .second, .val (.long q2), .second, .val (.long uu), .second, .val (.int p3), .val (.long s0), .second, .val (.long s1), .second, .val (.int (2 : Int32)), .val (.ref b2), .unset, .unset, .unset, .unset, .unset] [(.int (4 : Int32)), (.int (2 : Int32))]))
      have hc102 : ¬ ((2 : Int32) = (4 : Int32)) := by decide
      refine OGo.step (fun uK kK => XS.icmpNo X25.here hx rfl (hb hby at_102) rfl (feq hc102).1 kK) ?_
      show OGo p e below _ (T25.setTop (mkF m 105 #[.val (.long q1), .second, .val (.long q2), .second, .val (.long uu), .second, .val (.int p3), .val (.long s0), .second, .val (.long s1), .second, .val (.int (2 : Int32)), .val (.ref b2), .unset, .unset, .unset, .unset, .unset] []))
      refine OGo.step (fun uK kK => XS.iload X25.here hx rfl (hb hby at_105) rfl kK) ?_
      refine OGo.step (fun uK kK => XS.bipush X25.here hx rfl (hb hby at_107) kK) ?_
      show OGo p e below _ (T25.setTop (mkF m 109 #[.val (.long q1), .second, .val (.long q2), .second, .val (.long uu), .second, .val (.int p3), .val (.long s0), .second, .val (.long s1), .second, .val (.int (2 : Int32)), .val (.ref b2), .unset, .unset, .unset, .unset, .unset] [(.int (6 : Int32)), (.int (2 : Int32))]))
      have hc109 : ¬ ((2 : Int32) = (6 : Int32)) := by decide
      refine OGo.step (fun uK kK => XS.icmpNo X25.here hx rfl (hb hby at_109) rfl (feq hc109).1 kK) ?_
      show OGo p e below _ (T25.setTop (mkF m 112 #[.val (.long q1), .second, .val (.long q2), .second, .val (.long uu), .second, .val (.int p3), .val (.long s0), .second, .val (.long s1), .second, .val (.int (2 : Int32)), .val (.ref b2), .unset, .unset, .unset, .unset, .unset] []))
      refine OGo.step (fun uK kK => XS.iload X25.here hx rfl (hb hby at_112) rfl kK) ?_
      refine OGo.step (fun uK kK => XS.bipush X25.here hx rfl (hb hby at_114) kK) ?_
      show OGo p e below _ (T25.setTop (mkF m 116 #[.val (.long q1), .second, .val (.long q2), .second, .val (.long uu), .second, .val (.int p3), .val (.long s0), .second, .val (.long s1), .second, .val (.int (2 : Int32)), .val (.ref b2), .unset, .unset, .unset, .unset, .unset] [(.int (7 : Int32)), (.int (2 : Int32))]))
      have hc116 : ¬ ((2 : Int32) = (7 : Int32)) := by decide
      refine OGo.step (fun uK kK => XS.icmpYes X25.here hx rfl (pc0 := 116) (pc' := 127) rfl (hb hby at_116) rfl (feq hc116).2 (by decide) (by decide) kK) ?_
      show OGo p e below _ (T25.setTop (mkF m 127 #[.val (.long q1), .second, .val (.long q2), .second, .val (.long uu), .second, .val (.int p3), .val (.long s0), .second, .val (.long s1), .second, .val (.int (2 : Int32)), .val (.ref b2), .unset, .unset, .unset, .unset, .unset] []))
      refine OGo.step (fun uK kK => XS.iload X25.here hx rfl (hb hby at_127) rfl kK) ?_
      refine OGo.step (fun uK kK => XS.iconst X25.here hx rfl (hb hby at_129) kK) ?_
      show OGo p e below _ (T25.setTop (mkF m 130 #[.val (.long q1), .second, .val (.long q2), .second, .val (.long uu), .second, .val (.int p3), .val (.long s0), .second, .val (.long s1), .second, .val (.int (2 : Int32)), .val (.ref b2), .unset, .unset, .unset, .unset, .unset] [(.int (5 : Int32)), (.int (2 : Int32))]))
      have hc130 : ¬ ((2 : Int32) = (5 : Int32)) := by decide
      refine OGo.step (fun uK kK => XS.icmpNo X25.here hx rfl (hb hby at_130) rfl (feq hc130).1 kK) ?_
      show OGo p e below _ (T25.setTop (mkF m 133 #[.val (.long q1), .second, .val (.long q2), .second, .val (.long uu), .second, .val (.int p3), .val (.long s0), .second, .val (.long s1), .second, .val (.int (2 : Int32)), .val (.ref b2), .unset, .unset, .unset, .unset, .unset] []))
      refine OGo.step (fun uK kK => XS.iload X25.here hx rfl (hb hby at_133) rfl kK) ?_
      refine OGo.step (fun uK kK => XS.bipush X25.here hx rfl (hb hby at_135) kK) ?_
      show OGo p e below _ (T25.setTop (mkF m 137 #[.val (.long q1), .second, .val (.long q2), .second, .val (.long uu), .second, .val (.int p3), .val (.long s0), .second, .val (.long s1), .second, .val (.int (2 : Int32)), .val (.ref b2), .unset, .unset, .unset, .unset, .unset] [(.int (7 : Int32)), (.int (2 : Int32))]))
      have hc137 : ¬ ((2 : Int32) = (7 : Int32)) := by decide
      refine OGo.step (fun uK kK => XS.icmpYes X25.here hx rfl (pc0 := 137) (pc' := 148) rfl (hb hby at_137) rfl (feq hc137).2 (by decide) (by decide) kK) ?_
      show OGo p e below _ (T25.setTop (mkF m 148 #[.val (.long q1), .second, .val (.long q2), .second, .val (.long uu), .second, .val (.int p3), .val (.long s0), .second, .val (.long s1), .second, .val (.int (2 : Int32)), .val (.ref b2), .unset, .unset, .unset, .unset, .unset] []))
      refine OGo.step (fun uK kK => XS.iload X25.here hx rfl (hb hby at_148) rfl kK) ?_
      refine OGo.step (fun uK kK => XS.iconst X25.here hx rfl (hb hby at_150) kK) ?_
      show OGo p e below _ (T25.setTop (mkF m 151 #[.val (.long q1), .second, .val (.long q2), .second, .val (.long uu), .second, .val (.int p3), .val (.long s0), .second, .val (.long s1), .second, .val (.int (2 : Int32)), .val (.ref b2), .unset, .unset, .unset, .unset, .unset] [(.int (1 : Int32)), (.int (2 : Int32))]))
      have hc151 : ¬ ((2 : Int32) = (1 : Int32)) := by decide
      refine OGo.step (fun uK kK => XS.icmpNo X25.here hx rfl (hb hby at_151) rfl (feq hc151).1 kK) ?_
      show OGo p e below _ (T25.setTop (mkF m 154 #[.val (.long q1), .second, .val (.long q2), .second, .val (.long uu), .second, .val (.int p3), .val (.long s0), .second, .val (.long s1), .second, .val (.int (2 : Int32)), .val (.ref b2), .unset, .unset, .unset, .unset, .unset] []))
      refine OGo.step (fun uK kK => XS.iload X25.here hx rfl (hb hby at_154) rfl kK) ?_
      refine OGo.step (fun uK kK => XS.iconst X25.here hx rfl (hb hby at_156) kK) ?_
      show OGo p e below _ (T25.setTop (mkF m 157 #[.val (.long q1), .second, .val (.long q2), .second, .val (.long uu), .second, .val (.int p3), .val (.long s0), .second, .val (.long s1), .second, .val (.int (2 : Int32)), .val (.ref b2), .unset, .unset, .unset, .unset, .unset] [(.int (2 : Int32)), (.int (2 : Int32))]))
      have hc157 : (2 : Int32) = (2 : Int32) := by decide
      refine OGo.step (fun uK kK => XS.icmpYes X25.here hx rfl (pc0 := 157) (pc' := 179) rfl (hb hby at_157) rfl (teq hc157).1 (by decide) (by decide) kK) ?_
      show OGo p e below _ (T25.setTop (mkF m 179 #[.val (.long q1), .second, .val (.long q2), .second, .val (.long uu), .second, .val (.int p3), .val (.long s0), .second, .val (.long s1), .second, .val (.int (2 : Int32)), .val (.ref b2), .unset, .unset, .unset, .unset, .unset] []))
      refine OGo.step (fun uK kK => XS.iconst X25.here hx rfl (hb hby at_179) kK) ?_
      show OGo p e below _ (T25.setTop (mkF m 180 #[.val (.long q1), .second, .val (.long q2), .second, .val (.long uu), .second, .val (.int p3), .val (.long s0), .second, .val (.long s1), .second, .val (.int (2 : Int32)), .val (.ref b2), .unset, .unset, .unset, .unset, .unset] [(.int (1 : Int32))]))
      refine OGo.step (fun uK kK => XS.goto X25.here hx rfl (pc0 := 180) (pc' := 184) rfl (hb hby at_180) (by decide) (by decide) kK) ?_
      show OGo p e below _ (T25.setTop (mkF m 184 #[.val (.long q1), .second, .val (.long q2), .second, .val (.long uu), .second, .val (.int p3), .val (.long s0), .second, .val (.long s1), .second, .val (.int (2 : Int32)), .val (.ref b2), .unset, .unset, .unset, .unset, .unset] [(.int (1 : Int32))]))
      refine OGo.step (fun uK kK => XS.istore X25.here hx rfl (hb hby at_184) rfl (l' := #[.val (.long q1), .second, .val (.long q2), .second, .val (.long uu), .second, .val (.int p3), .val (.long s0), .second, .val (.long s1), .second, .val (.int (2 : Int32)), .val (.ref b2), .val (.int (1 : Int32)), .unset, .unset, .unset, .unset]) rfl kK) ?_
      refine OGo.step (fun uK kK => XS.iload X25.here hx rfl (hb hby at_186) rfl kK) ?_
      refine OGo.step (fun uK kK => XS.iconst X25.here hx rfl (hb hby at_188) kK) ?_
      show OGo p e below _ (T25.setTop (mkF m 189 #[.val (.long q1), .second, .val (.long q2), .second, .val (.long uu), .second, .val (.int p3), .val (.long s0), .second, .val (.long s1), .second, .val (.int (2 : Int32)), .val (.ref b2), .val (.int (1 : Int32)), .unset, .unset, .unset, .unset] [(.int (3 : Int32)), (.int (2 : Int32))]))
      have hc189 : ¬ ((2 : Int32) = (3 : Int32)) := by decide
      refine OGo.step (fun uK kK => XS.icmpYes X25.here hx rfl (pc0 := 189) (pc' := 197) rfl (hb hby at_189) rfl (feq hc189).2 (by decide) (by decide) kK) ?_
      show OGo p e below _ (T25.setTop (mkF m 197 #[.val (.long q1), .second, .val (.long q2), .second, .val (.long uu), .second, .val (.int p3), .val (.long s0), .second, .val (.long s1), .second, .val (.int (2 : Int32)), .val (.ref b2), .val (.int (1 : Int32)), .unset, .unset, .unset, .unset] []))
      refine OGo.step (fun uK kK => XS.lload X25.here hx rfl (hb hby at_197) rfl kK) ?_
      show OGo p e below _ (T25.setTop (mkF m 199 #[.val (.long q1), .second, .val (.long q2), .second, .val (.long uu), .second, .val (.int p3), .val (.long s0), .second, .val (.long s1), .second, .val (.int (2 : Int32)), .val (.ref b2), .val (.int (1 : Int32)), .unset, .unset, .unset, .unset] [(.long s0)]))
      refine OGo.step (fun uK kK => XS.lstore X25.here hx rfl (hb hby at_199) rfl (l' := #[.val (.long q1), .second, .val (.long q2), .second, .val (.long uu), .second, .val (.int p3), .val (.long s0), .second, .val (.long s1), .second, .val (.int (2 : Int32)), .val (.ref b2), .val (.int (1 : Int32)), .val (.long s0), .second, .unset, .unset]) rfl kK) ?_
      refine OGo.step (fun uK kK => XS.iload X25.here hx rfl (hb hby at_201) rfl kK) ?_
      show OGo p e below _ (T25.setTop (mkF m 203 #[.val (.long q1), .second, .val (.long q2), .second, .val (.long uu), .second, .val (.int p3), .val (.long s0), .second, .val (.long s1), .second, .val (.int (2 : Int32)), .val (.ref b2), .val (.int (1 : Int32)), .val (.long s0), .second, .unset, .unset] [(.int (1 : Int32))]))
      have hc203 : ¬ ((1 : Int32) = (0 : Int32)) := by decide
      refine OGo.step (fun uK kK => XS.ifYes X25.here hx rfl (pc0 := 203) (pc' := 214) rfl (hb hby at_203) rfl ((if0 _ _).trans (feq hc203).2) (by decide) (by decide) kK) ?_
      show OGo p e below _ (T25.setTop (mkF m 214 #[.val (.long q1), .second, .val (.long q2), .second, .val (.long uu), .second, .val (.int p3), .val (.long s0), .second, .val (.long s1), .second, .val (.int (2 : Int32)), .val (.ref b2), .val (.int (1 : Int32)), .val (.long s0), .second, .unset, .unset] []))
      refine OGo.step (fun uK kK => XS.lload X25.here hx rfl (hb hby at_214) rfl kK) ?_
      refine OGo.step (fun uK kK => XS.lload X25.here hx rfl (hb hby at_216) rfl kK) ?_
      show OGo p e below _ (T25.setTop (mkF m 218 #[.val (.long q1), .second, .val (.long q2), .second, .val (.long uu), .second, .val (.int p3), .val (.long s0), .second, .val (.long s1), .second, .val (.int (2 : Int32)), .val (.ref b2), .val (.int (1 : Int32)), .val (.long s0), .second, .unset, .unset] [(.long uu), (.long s0)]))
      refine OGo.step (fun uK kK => XS.lcmp X25.here hx rfl (hb hby at_218) rfl kK) ?_
      show OGo p e below _ (T25.setTop (mkF m 219 #[.val (.long q1), .second, .val (.long q2), .second, .val (.long uu), .second, .val (.int p3), .val (.long s0), .second, .val (.long s1), .second, .val (.int (2 : Int32)), .val (.ref b2), .val (.int (1 : Int32)), .val (.long s0), .second, .unset, .unset] [(.int (lcmpW s0 uu))]))
      refine OGo.step (t' := T25.setTop (mkF m 234 #[.val (.long q1), .second, .val (.long q2), .second, .val (.long uu), .second, .val (.int p3), .val (.long s0), .second, .val (.long s1), .second, .val (.int (2 : Int32)), .val (.ref b2), .val (.int (1 : Int32)), .val (.long s0), .second, .val (.long (if s0 < uu then s0 else (-1 : Int64))), .second] [])) (fun uK kK => ?_) ?_
      · show Steps p.tables e below (T25.setTop (mkF m 219 #[.val (.long q1), .second, .val (.long q2), .second, .val (.long uu), .second, .val (.int p3), .val (.long s0), .second, .val (.long s1), .second, .val (.int (2 : Int32)), .val (.ref b2), .val (.int (1 : Int32)), .val (.long s0), .second, .unset, .unset] [(.int (lcmpW s0 uu))])) _
        by_cases hm219_32 : s0 < uu
        · try rw [if_pos hm219_32] at kK
          refine XS.ifNo X25.here hx rfl (hb hby at_219) rfl ((if0 _ _).trans (tlt ((lw_lt _ _).mpr hm219_32)).2.1) ?_
          refine XS.lload X25.here hx rfl (hb hby at_222) rfl ?_
          show Steps p.tables e below (T25.setTop (mkF m 224 #[.val (.long q1), .second, .val (.long q2), .second, .val (.long uu), .second, .val (.int p3), .val (.long s0), .second, .val (.long s1), .second, .val (.int (2 : Int32)), .val (.ref b2), .val (.int (1 : Int32)), .val (.long s0), .second, .unset, .unset] [(.long s0)])) _
          refine XS.lstore X25.here hx rfl (hb hby at_224) rfl (l' := #[.val (.long q1), .second, .val (.long q2), .second, .val (.long uu), .second, .val (.int p3), .val (.long s0), .second, .val (.long s1), .second, .val (.int (2 : Int32)), .val (.ref b2), .val (.int (1 : Int32)), .val (.long s0), .second, .val (.long s0), .second]) rfl ?_
          show Steps p.tables e below (T25.setTop (mkF m 226 #[.val (.long q1), .second, .val (.long q2), .second, .val (.long uu), .second, .val (.int p3), .val (.long s0), .second, .val (.long s1), .second, .val (.int (2 : Int32)), .val (.ref b2), .val (.int (1 : Int32)), .val (.long s0), .second, .val (.long s0), .second] [])) _
          refine XS.goto X25.here hx rfl (pc0 := 226) (pc' := 234) rfl (hb hby at_226) (by decide) (by decide) ?_
          show Steps p.tables e below (T25.setTop (mkF m 234 #[.val (.long q1), .second, .val (.long q2), .second, .val (.long uu), .second, .val (.int p3), .val (.long s0), .second, .val (.long s1), .second, .val (.int (2 : Int32)), .val (.ref b2), .val (.int (1 : Int32)), .val (.long s0), .second, .val (.long s0), .second] [])) _
          exact kK
        · try rw [if_neg hm219_32] at kK
          refine XS.ifYes X25.here hx rfl (pc0 := 219) (pc' := 229) rfl (hb hby at_219) rfl ((if0 _ _).trans (flt (fun q => hm219_32 ((lw_lt _ _).mp q))).2.1) (by decide) (by decide) ?_
          refine X25.ldc2J hx hown (mvT hZ (hw _ (List.mem_of_getElem? (i := 45) rfl))) rfl (hb hby at_229) ?_
          show Steps p.tables e below (T25.setTop (mkF m 232 #[.val (.long q1), .second, .val (.long q2), .second, .val (.long uu), .second, .val (.int p3), .val (.long s0), .second, .val (.long s1), .second, .val (.int (2 : Int32)), .val (.ref b2), .val (.int (1 : Int32)), .val (.long s0), .second, .unset, .unset] [(.long (-1 : Int64))])) _
          refine XS.lstore X25.here hx rfl (hb hby at_232) rfl (l' := #[.val (.long q1), .second, .val (.long q2), .second, .val (.long uu), .second, .val (.int p3), .val (.long s0), .second, .val (.long s1), .second, .val (.int (2 : Int32)), .val (.ref b2), .val (.int (1 : Int32)), .val (.long s0), .second, .val (.long (-1 : Int64)), .second]) rfl ?_
          show Steps p.tables e below (T25.setTop (mkF m 234 #[.val (.long q1), .second, .val (.long q2), .second, .val (.long uu), .second, .val (.int p3), .val (.long s0), .second, .val (.long s1), .second, .val (.int (2 : Int32)), .val (.ref b2), .val (.int (1 : Int32)), .val (.long s0), .second, .val (.long (-1 : Int64)), .second] [])) _
          exact kK
      show OGo p e below _ (T25.setTop (mkF m 234 #[.val (.long q1), .second, .val (.long q2), .second, .val (.long uu), .second, .val (.int p3), .val (.long s0), .second, .val (.long s1), .second, .val (.int (2 : Int32)), .val (.ref b2), .val (.int (1 : Int32)), .val (.long s0), .second, .val (.long (if s0 < uu then s0 else (-1 : Int64))), .second] []))
      refine OGo.step (fun uK kK => XS.aload X25.here hx rfl (hb hby at_234) rfl rfl kK) ?_
      refine OGo.step (fun uK kK => XS.lload X25.here hx rfl (hb hby at_236) rfl kK) ?_
      show OGo p e below _ (T25.setTop (mkF m 238 #[.val (.long q1), .second, .val (.long q2), .second, .val (.long uu), .second, .val (.int p3), .val (.long s0), .second, .val (.long s1), .second, .val (.int (2 : Int32)), .val (.ref b2), .val (.int (1 : Int32)), .val (.long s0), .second, .val (.long (if s0 < uu then s0 else (-1 : Int64))), .second] [(.long uu), (.ref b2)]))
      obtain ⟨cq33, kq33, q33a, q33b, q33c⟩ := isOf hZ rfl A2_26
      obtain ⟨_, _, ⟨T33, Lq33, kq_33, nq_33⟩, -, X33, ⟨Lc33, hQ33, lq33, yq33, zq33⟩, st33⟩ := X25.virtualBack hx (y := (⟨"com/example/graph_of_conflicts/graphofconflicts/engine/OpenSnapshots", "earliestBefore", "(J)J"⟩ : MethodName)) (z := (⟨"com/example/graph_of_conflicts/graphofconflicts/engine/OpenSnapshots", "earliestBefore", "(J)J"⟩ : MethodName)) hown (mvT hZ (hw _ (List.mem_of_getElem? (i := 46) rfl))) (mvT hZ (hw _ (List.mem_of_getElem? (i := 47) rfl))) (notFace_of_selects (args := #[]) (mvT hZ (hw _ (List.mem_of_getElem? (i := 49) rfl)))) (mvT hZ (hw _ (List.mem_of_getElem? (i := 49) rfl))) (mvT hZ (hw _ (List.mem_of_getElem? (i := 48) rfl))) (by decide) (backOf (W := 0) (rme2 l Z a0 hw [] b2 uu aS kS s0 s1 (0 : Int64) (0 : Int64) (0 : Int64) (0 : Int64) (0 : Int64) (0 : Int64) T25.heap n0 ZS25 Fs25 Fn25 Vs25) hZ (hw _ (List.mem_of_getElem? (i := 50) rfl)) (hw _ (List.mem_of_getElem? (i := 7) rfl)) (by decide) (by decide)) q33a q33c (g := (mkF m 238 #[.val (.long q1), .second, .val (.long q2), .second, .val (.long uu), .second, .val (.int p3), .val (.long s0), .second, .val (.long s1), .second, .val (.int (2 : Int32)), .val (.ref b2), .val (.int (1 : Int32)), .val (.long s0), .second, .val (.long (if s0 < uu then s0 else (-1 : Int64))), .second] [(.long uu), (.ref b2)])) rfl (by rw [hml]; rfl) (Steps.refl _) (argsL := [(.long uu)]) (rest := []) (lenOf pd0_2 rfl) rfl (by show 2 * 0 + _ ≤ _; exact Nat.le_of_eq rfl) (hb hby at_238) (fun _ _ => ⟨rfl, rfl, (by decide : 3 + 0 ≤ _), (by decide : 19 + 0 ≤ _)⟩)
      dsimp only [Pt.U, Pt.locs, Pt.cells, Pt.slots] at X33 lq33 yq33 zq33 st33 hQ33
      subst lq33 yq33 zq33
      obtain ⟨rfl, Nq33, e33⟩ := hQ33
      have N33 := Fr.app N25 Nq33
      refine OGo.steps st33 ?_
      show OGo p e below _ (T33.setTop (mkF m 241 #[.val (.long q1), .second, .val (.long q2), .second, .val (.long uu), .second, .val (.int p3), .val (.long s0), .second, .val (.long s1), .second, .val (.int (2 : Int32)), .val (.ref b2), .val (.int (1 : Int32)), .val (.long s0), .second, .val (.long (if s0 < uu then s0 else (-1 : Int64))), .second] [(.long (if s0 < uu then s0 else (-1 : Int64)))]))
      refine OGo.step (fun uK kK => XS.lload X33.here hx rfl (hb hby at_241) rfl kK) ?_
      show OGo p e below _ (T33.setTop (mkF m 243 #[.val (.long q1), .second, .val (.long q2), .second, .val (.long uu), .second, .val (.int p3), .val (.long s0), .second, .val (.long s1), .second, .val (.int (2 : Int32)), .val (.ref b2), .val (.int (1 : Int32)), .val (.long s0), .second, .val (.long (if s0 < uu then s0 else (-1 : Int64))), .second] [(.long (if s0 < uu then s0 else (-1 : Int64))), (.long (if s0 < uu then s0 else (-1 : Int64)))]))
      refine OGo.step (fun uK kK => XS.lcmp X33.here hx rfl (hb hby at_243) rfl kK) ?_
      show OGo p e below _ (T33.setTop (mkF m 244 #[.val (.long q1), .second, .val (.long q2), .second, .val (.long uu), .second, .val (.int p3), .val (.long s0), .second, .val (.long s1), .second, .val (.int (2 : Int32)), .val (.ref b2), .val (.int (1 : Int32)), .val (.long s0), .second, .val (.long (if s0 < uu then s0 else (-1 : Int64))), .second] [(.int (lcmpW (if s0 < uu then s0 else (-1 : Int64)) (if s0 < uu then s0 else (-1 : Int64))))]))
      have hc244 : (if s0 < uu then s0 else (-1 : Int64)) = (if s0 < uu then s0 else (-1 : Int64)) := rfl
      refine OGo.step (fun uK kK => XS.ifNo X33.here hx rfl (hb hby at_244) rfl ((if0 _ _).trans (teq ((lw_eq _ _).mpr hc244)).2) kK) ?_
      show OGo p e below _ (T33.setTop (mkF m 247 #[.val (.long q1), .second, .val (.long q2), .second, .val (.long uu), .second, .val (.int p3), .val (.long s0), .second, .val (.long s1), .second, .val (.int (2 : Int32)), .val (.ref b2), .val (.int (1 : Int32)), .val (.long s0), .second, .val (.long (if s0 < uu then s0 else (-1 : Int64))), .second] []))
      refine OGo.step (fun uK kK => XS.iconst X33.here hx rfl (hb hby at_247) kK) ?_
      show OGo p e below _ (T33.setTop (mkF m 248 #[.val (.long q1), .second, .val (.long q2), .second, .val (.long uu), .second, .val (.int p3), .val (.long s0), .second, .val (.long s1), .second, .val (.int (2 : Int32)), .val (.ref b2), .val (.int (1 : Int32)), .val (.long s0), .second, .val (.long (if s0 < uu then s0 else (-1 : Int64))), .second] [(.int (1 : Int32))]))
      refine OGo.step (fun uK kK => XS.goto X33.here hx rfl (pc0 := 248) (pc' := 252) rfl (hb hby at_248) (by decide) (by decide) kK) ?_
      show OGo p e below _ (T33.setTop (mkF m 252 #[.val (.long q1), .second, .val (.long q2), .second, .val (.long uu), .second, .val (.int p3), .val (.long s0), .second, .val (.long s1), .second, .val (.int (2 : Int32)), .val (.ref b2), .val (.int (1 : Int32)), .val (.long s0), .second, .val (.long (if s0 < uu then s0 else (-1 : Int64))), .second] [(.int (1 : Int32))]))
      exact OGo.retN X33 hx Bd.notSynchronized (t := .boolean) Bd.returns (by simp) (hb hby at_252) (by decide) (by decide) (by show Q0 Z q1 q2 uu p3 h0 n0 _ T33.heap _; rw [e33]; exact ⟨rfl, N33⟩)
    · skip
      replace heq := heq.symm
      subst heq
      show OGo p e below _ (T3.setTop (mkF m 35 #[.val (.long q1), .second, .val (.long q2), .second, .val (.long uu), .second, .val (.int p3), .val (.long s0), .second, .val (.long s0), .second, .val (.int (2 : Int32)), .val (.ref b2), .unset, .unset, .unset, .unset, .unset] []))
      refine OGo.step (fun uK kK => XS.iload X3.here hx rfl (hb hby at_35) rfl kK) ?_
      show OGo p e below _ (T3.setTop (mkF m 37 #[.val (.long q1), .second, .val (.long q2), .second, .val (.long uu), .second, .val (.int p3), .val (.long s0), .second, .val (.long s0), .second, .val (.int (2 : Int32)), .val (.ref b2), .unset, .unset, .unset, .unset, .unset] [(.int (2 : Int32))]))
      have hc37 : ¬ ((2 : Int32) = (0 : Int32)) := by decide
      refine OGo.step (fun uK kK => XS.ifNo X3.here hx rfl (hb hby at_37) rfl ((if0 _ _).trans (feq hc37).1) kK) ?_
      show OGo p e below _ (T3.setTop (mkF m 40 #[.val (.long q1), .second, .val (.long q2), .second, .val (.long uu), .second, .val (.int p3), .val (.long s0), .second, .val (.long s0), .second, .val (.int (2 : Int32)), .val (.ref b2), .unset, .unset, .unset, .unset, .unset] []))
      refine OGo.step (fun uK kK => XS.aload X3.here hx rfl (hb hby at_40) rfl rfl kK) ?_
      refine OGo.step (fun uK kK => XS.lload X3.here hx rfl (hb hby at_42) rfl kK) ?_
      show OGo p e below _ (T3.setTop (mkF m 44 #[.val (.long q1), .second, .val (.long q2), .second, .val (.long uu), .second, .val (.int p3), .val (.long s0), .second, .val (.long s0), .second, .val (.int (2 : Int32)), .val (.ref b2), .unset, .unset, .unset, .unset, .unset] [(.long s0), (.ref b2)]))
      obtain ⟨cq34, kq34, q34a, q34b, q34c⟩ := isOf hZ rfl A2_4
      obtain ⟨_, _, ⟨T34, Lq34, kq_34, nq_34⟩, -, X34, ⟨Lc34, hQ34, lq34, yq34, zq34⟩, st34⟩ := X3.virtualBack hx (y := (⟨"com/example/graph_of_conflicts/graphofconflicts/engine/OpenSnapshots", "add", "(J)V"⟩ : MethodName)) (z := (⟨"com/example/graph_of_conflicts/graphofconflicts/engine/OpenSnapshots", "add", "(J)V"⟩ : MethodName)) hown (mvT hZ (hw _ (List.mem_of_getElem? (i := 20) rfl))) (mvT hZ (hw _ (List.mem_of_getElem? (i := 21) rfl))) (notFace_of_selects (args := #[]) (mvT hZ (hw _ (List.mem_of_getElem? (i := 23) rfl)))) (mvT hZ (hw _ (List.mem_of_getElem? (i := 23) rfl))) (mvT hZ (hw _ (List.mem_of_getElem? (i := 22) rfl))) (by decide) (backOf (W := 0) (rma0 l Z a0 hw [] b2 aS kS (0 : Int64) (0 : Int64) (0 : Int64) (0 : Int64) (0 : Int64) (0 : Int64) (0 : Int64) (0 : Int64) aH kH (0 : Int32) (0 : Int32) (0 : Int32) (0 : Int32) (0 : Int32) (0 : Int32) (0 : Int32) (0 : Int32) s0 T3.heap n0 ZS3 Fs3 Fh3 Fn3 Vs3 Vh3 A2_4 gn_b2 gS gH ne_b2_aS ne_b2_aH neSH) hZ (hw _ (List.mem_of_getElem? (i := 24) rfl)) (hw _ (List.mem_of_getElem? (i := 7) rfl)) (by decide) (by decide)) q34a q34c (g := (mkF m 44 #[.val (.long q1), .second, .val (.long q2), .second, .val (.long uu), .second, .val (.int p3), .val (.long s0), .second, .val (.long s0), .second, .val (.int (2 : Int32)), .val (.ref b2), .unset, .unset, .unset, .unset, .unset] [(.long s0), (.ref b2)])) rfl (by rw [hml]; rfl) (Steps.refl _) (argsL := [(.long s0)]) (rest := []) (lenOf pd0_3 rfl) rfl (by show 2 * 0 + _ ≤ _; exact Nat.le_of_eq rfl) (hb hby at_44) (fun _ _ => ⟨rfl, rfl, (by decide : 3 + 0 ≤ _), (by decide : 19 + 0 ≤ _)⟩)
      dsimp only [Pt.U, Pt.locs, Pt.cells, Pt.slots] at X34 lq34 yq34 zq34 st34 hQ34
      subst lq34 yq34 zq34
      obtain ⟨rfl, Nq34, K34, Fs34, Fh34, Fn34, Vs34, Vh34⟩ := hQ34
      have A2_35 := (A2_4.keep K34)
      have ZS34 : n0 ≤ T34.heap.size := Nat.le_trans ZS3 K34.1
      have KC34 : Keep h0 T34.heap [] := KC3.trans K34 (allS (Or.inr sz_b2) (allS (Or.inr sz_aS) (allS (Or.inr sz_aH) all0)))
      have N34 := Fr.app N3 Nq34
      refine OGo.steps st34 ?_
      show OGo p e below _ (T34.setTop (mkF m 47 #[.val (.long q1), .second, .val (.long q2), .second, .val (.long uu), .second, .val (.int p3), .val (.long s0), .second, .val (.long s0), .second, .val (.int (2 : Int32)), .val (.ref b2), .unset, .unset, .unset, .unset, .unset] []))
      refine OGo.step (fun uK kK => XS.iload X34.here hx rfl (hb hby at_47) rfl kK) ?_
      refine OGo.step (fun uK kK => XS.iconst X34.here hx rfl (hb hby at_49) kK) ?_
      show OGo p e below _ (T34.setTop (mkF m 50 #[.val (.long q1), .second, .val (.long q2), .second, .val (.long uu), .second, .val (.int p3), .val (.long s0), .second, .val (.long s0), .second, .val (.int (2 : Int32)), .val (.ref b2), .unset, .unset, .unset, .unset, .unset] [(.int (2 : Int32)), (.int (2 : Int32))]))
      have hc50 : (2 : Int32) = (2 : Int32) := by decide
      refine OGo.step (fun uK kK => XS.icmpYes X34.here hx rfl (pc0 := 50) (pc' := 72) rfl (hb hby at_50) rfl (teq hc50).1 (by decide) (by decide) kK) ?_
      show OGo p e below _ (T34.setTop (mkF m 72 #[.val (.long q1), .second, .val (.long q2), .second, .val (.long uu), .second, .val (.int p3), .val (.long s0), .second, .val (.long s0), .second, .val (.int (2 : Int32)), .val (.ref b2), .unset, .unset, .unset, .unset, .unset] []))
      refine OGo.step (fun uK kK => XS.aload X34.here hx rfl (hb hby at_72) rfl rfl kK) ?_
      refine OGo.step (fun uK kK => XS.lload X34.here hx rfl (hb hby at_74) rfl kK) ?_
      show OGo p e below _ (T34.setTop (mkF m 76 #[.val (.long q1), .second, .val (.long q2), .second, .val (.long uu), .second, .val (.int p3), .val (.long s0), .second, .val (.long s0), .second, .val (.int (2 : Int32)), .val (.ref b2), .unset, .unset, .unset, .unset, .unset] [(.long s0), (.ref b2)]))
      obtain ⟨cq41, kq41, q41a, q41b, q41c⟩ := isOf hZ rfl A2_35
      obtain ⟨_, _, ⟨T41, Lq41, kq_41, nq_41⟩, -, X41, ⟨Lc41, hQ41, lq41, yq41, zq41⟩, st41⟩ := X34.virtualBack hx (y := (⟨"com/example/graph_of_conflicts/graphofconflicts/engine/OpenSnapshots", "add", "(J)V"⟩ : MethodName)) (z := (⟨"com/example/graph_of_conflicts/graphofconflicts/engine/OpenSnapshots", "add", "(J)V"⟩ : MethodName)) hown (mvT hZ (hw _ (List.mem_of_getElem? (i := 20) rfl))) (mvT hZ (hw _ (List.mem_of_getElem? (i := 21) rfl))) (notFace_of_selects (args := #[]) (mvT hZ (hw _ (List.mem_of_getElem? (i := 23) rfl)))) (mvT hZ (hw _ (List.mem_of_getElem? (i := 23) rfl))) (mvT hZ (hw _ (List.mem_of_getElem? (i := 22) rfl))) (by decide) (backOf (W := 0) (rmae l Z a0 hw [] b2 aS kS s0 (0 : Int64) (0 : Int64) (0 : Int64) (0 : Int64) (0 : Int64) (0 : Int64) (0 : Int64) aH kH (1 : Int32) (0 : Int32) (0 : Int32) (0 : Int32) (0 : Int32) (0 : Int32) (0 : Int32) (0 : Int32) T34.heap n0 ZS34 Fs34 Fh34 Fn34 Vs34 Vh34 A2_35 gn_b2 gS gH ne_b2_aS ne_b2_aH neSH) hZ (hw _ (List.mem_of_getElem? (i := 24) rfl)) (hw _ (List.mem_of_getElem? (i := 7) rfl)) (by decide) (by decide)) q41a q41c (g := (mkF m 76 #[.val (.long q1), .second, .val (.long q2), .second, .val (.long uu), .second, .val (.int p3), .val (.long s0), .second, .val (.long s0), .second, .val (.int (2 : Int32)), .val (.ref b2), .unset, .unset, .unset, .unset, .unset] [(.long s0), (.ref b2)])) rfl (by rw [hml]; rfl) (Steps.refl _) (argsL := [(.long s0)]) (rest := []) (lenOf pd0_3 rfl) rfl (by show 2 * 0 + _ ≤ _; exact Nat.le_of_eq rfl) (hb hby at_76) (fun _ _ => ⟨rfl, rfl, (by decide : 3 + 0 ≤ _), (by decide : 19 + 0 ≤ _)⟩)
      dsimp only [Pt.U, Pt.locs, Pt.cells, Pt.slots] at X41 lq41 yq41 zq41 st41 hQ41
      subst lq41 yq41 zq41
      obtain ⟨rfl, Nq41, K41, Fs41, Fh41, Fn41, Vs41, Vh41⟩ := hQ41
      have A2_42 := (A2_35.keep K41)
      have ZS41 : n0 ≤ T41.heap.size := Nat.le_trans ZS34 K41.1
      have KC41 : Keep h0 T41.heap [] := KC34.trans K41 (allS (Or.inr sz_b2) (allS (Or.inr sz_aS) (allS (Or.inr sz_aH) all0)))
      have N41 := Fr.app N34 Nq41
      refine OGo.steps st41 ?_
      show OGo p e below _ (T41.setTop (mkF m 79 #[.val (.long q1), .second, .val (.long q2), .second, .val (.long uu), .second, .val (.int p3), .val (.long s0), .second, .val (.long s0), .second, .val (.int (2 : Int32)), .val (.ref b2), .unset, .unset, .unset, .unset, .unset] []))
      refine OGo.step (fun uK kK => XS.iload X41.here hx rfl (hb hby at_79) rfl kK) ?_
      refine OGo.step (fun uK kK => XS.bipush X41.here hx rfl (hb hby at_81) kK) ?_
      show OGo p e below _ (T41.setTop (mkF m 83 #[.val (.long q1), .second, .val (.long q2), .second, .val (.long uu), .second, .val (.int p3), .val (.long s0), .second, .val (.long s0), .second, .val (.int (2 : Int32)), .val (.ref b2), .unset, .unset, .unset, .unset, .unset] [(.int (6 : Int32)), (.int (2 : Int32))]))
      have hc83 : ¬ ((2 : Int32) = (6 : Int32)) := by decide
      refine OGo.step (fun uK kK => XS.icmpYes X41.here hx rfl (pc0 := 83) (pc' := 93) rfl (hb hby at_83) rfl (feq hc83).2 (by decide) (by decide) kK) ?_
      show OGo p e below _ (T41.setTop (mkF m 93 #[.val (.long q1), .second, .val (.long q2), .second, .val (.long uu), .second, .val (.int p3), .val (.long s0), .second, .val (.long s0), .second, .val (.int (2 : Int32)), .val (.ref b2), .unset, .unset, .unset, .unset, .unset] []))
      refine OGo.step (fun uK kK => XS.iload X41.here hx rfl (hb hby at_93) rfl kK) ?_
      refine OGo.step (fun uK kK => XS.iconst X41.here hx rfl (hb hby at_95) kK) ?_
      show OGo p e below _ (T41.setTop (mkF m 96 #[.val (.long q1), .second, .val (.long q2), .second, .val (.long uu), .second, .val (.int p3), .val (.long s0), .second, .val (.long s0), .second, .val (.int (2 : Int32)), .val (.ref b2), .unset, .unset, .unset, .unset, .unset] [(.int (3 : Int32)), (.int (2 : Int32))]))
      have hc96 : ¬ ((2 : Int32) = (3 : Int32)) := by decide
      refine OGo.step (fun uK kK => XS.icmpNo X41.here hx rfl (hb hby at_96) rfl (feq hc96).1 kK) ?_
      show OGo p e below _ (T41.setTop (mkF m 99 #[.val (.long q1), .second, .val (.long q2), .second, .val (.long uu), .second, .val (.int p3), .val (.long s0), .second, .val (.long s0), .second, .val (.int (2 : Int32)), .val (.ref b2), .unset, .unset, .unset, .unset, .unset] []))
      refine OGo.step (fun uK kK => XS.iload X41.here hx rfl (hb hby at_99) rfl kK) ?_
      refine OGo.step (fun uK kK => XS.iconst X41.here hx rfl (hb hby at_101) kK) ?_
      show OGo p e below _ (T41.setTop (mkF m 102 #[.val (.long q1), .second, .val (.long q2), .second, .val (.long uu), .second, .val (.int p3), .val (.long s0), .second, .val (.long s0), .second, .val (.int (2 : Int32)), .val (.ref b2), .unset, .unset, .unset, .unset, .unset] [(.int (4 : Int32)), (.int (2 : Int32))]))
      have hc102 : ¬ ((2 : Int32) = (4 : Int32)) := by decide
      refine OGo.step (fun uK kK => XS.icmpNo X41.here hx rfl (hb hby at_102) rfl (feq hc102).1 kK) ?_
      show OGo p e below _ (T41.setTop (mkF m 105 #[.val (.long q1), .second, .val (.long q2), .second, .val (.long uu), .second, .val (.int p3), .val (.long s0), .second, .val (.long s0), .second, .val (.int (2 : Int32)), .val (.ref b2), .unset, .unset, .unset, .unset, .unset] []))
      refine OGo.step (fun uK kK => XS.iload X41.here hx rfl (hb hby at_105) rfl kK) ?_
      refine OGo.step (fun uK kK => XS.bipush X41.here hx rfl (hb hby at_107) kK) ?_
      show OGo p e below _ (T41.setTop (mkF m 109 #[.val (.long q1), .second, .val (.long q2), .second, .val (.long uu), .second, .val (.int p3), .val (.long s0), .second, .val (.long s0), .second, .val (.int (2 : Int32)), .val (.ref b2), .unset, .unset, .unset, .unset, .unset] [(.int (6 : Int32)), (.int (2 : Int32))]))
      have hc109 : ¬ ((2 : Int32) = (6 : Int32)) := by decide
      refine OGo.step (fun uK kK => XS.icmpNo X41.here hx rfl (hb hby at_109) rfl (feq hc109).1 kK) ?_
      show OGo p e below _ (T41.setTop (mkF m 112 #[.val (.long q1), .second, .val (.long q2), .second, .val (.long uu), .second, .val (.int p3), .val (.long s0), .second, .val (.long s0), .second, .val (.int (2 : Int32)), .val (.ref b2), .unset, .unset, .unset, .unset, .unset] []))
      refine OGo.step (fun uK kK => XS.iload X41.here hx rfl (hb hby at_112) rfl kK) ?_
      refine OGo.step (fun uK kK => XS.bipush X41.here hx rfl (hb hby at_114) kK) ?_
      show OGo p e below _ (T41.setTop (mkF m 116 #[.val (.long q1), .second, .val (.long q2), .second, .val (.long uu), .second, .val (.int p3), .val (.long s0), .second, .val (.long s0), .second, .val (.int (2 : Int32)), .val (.ref b2), .unset, .unset, .unset, .unset, .unset] [(.int (7 : Int32)), (.int (2 : Int32))]))
      have hc116 : ¬ ((2 : Int32) = (7 : Int32)) := by decide
      refine OGo.step (fun uK kK => XS.icmpYes X41.here hx rfl (pc0 := 116) (pc' := 127) rfl (hb hby at_116) rfl (feq hc116).2 (by decide) (by decide) kK) ?_
      show OGo p e below _ (T41.setTop (mkF m 127 #[.val (.long q1), .second, .val (.long q2), .second, .val (.long uu), .second, .val (.int p3), .val (.long s0), .second, .val (.long s0), .second, .val (.int (2 : Int32)), .val (.ref b2), .unset, .unset, .unset, .unset, .unset] []))
      refine OGo.step (fun uK kK => XS.iload X41.here hx rfl (hb hby at_127) rfl kK) ?_
      refine OGo.step (fun uK kK => XS.iconst X41.here hx rfl (hb hby at_129) kK) ?_
      show OGo p e below _ (T41.setTop (mkF m 130 #[.val (.long q1), .second, .val (.long q2), .second, .val (.long uu), .second, .val (.int p3), .val (.long s0), .second, .val (.long s0), .second, .val (.int (2 : Int32)), .val (.ref b2), .unset, .unset, .unset, .unset, .unset] [(.int (5 : Int32)), (.int (2 : Int32))]))
      have hc130 : ¬ ((2 : Int32) = (5 : Int32)) := by decide
      refine OGo.step (fun uK kK => XS.icmpNo X41.here hx rfl (hb hby at_130) rfl (feq hc130).1 kK) ?_
      show OGo p e below _ (T41.setTop (mkF m 133 #[.val (.long q1), .second, .val (.long q2), .second, .val (.long uu), .second, .val (.int p3), .val (.long s0), .second, .val (.long s0), .second, .val (.int (2 : Int32)), .val (.ref b2), .unset, .unset, .unset, .unset, .unset] []))
      refine OGo.step (fun uK kK => XS.iload X41.here hx rfl (hb hby at_133) rfl kK) ?_
      refine OGo.step (fun uK kK => XS.bipush X41.here hx rfl (hb hby at_135) kK) ?_
      show OGo p e below _ (T41.setTop (mkF m 137 #[.val (.long q1), .second, .val (.long q2), .second, .val (.long uu), .second, .val (.int p3), .val (.long s0), .second, .val (.long s0), .second, .val (.int (2 : Int32)), .val (.ref b2), .unset, .unset, .unset, .unset, .unset] [(.int (7 : Int32)), (.int (2 : Int32))]))
      have hc137 : ¬ ((2 : Int32) = (7 : Int32)) := by decide
      refine OGo.step (fun uK kK => XS.icmpYes X41.here hx rfl (pc0 := 137) (pc' := 148) rfl (hb hby at_137) rfl (feq hc137).2 (by decide) (by decide) kK) ?_
      show OGo p e below _ (T41.setTop (mkF m 148 #[.val (.long q1), .second, .val (.long q2), .second, .val (.long uu), .second, .val (.int p3), .val (.long s0), .second, .val (.long s0), .second, .val (.int (2 : Int32)), .val (.ref b2), .unset, .unset, .unset, .unset, .unset] []))
      refine OGo.step (fun uK kK => XS.iload X41.here hx rfl (hb hby at_148) rfl kK) ?_
      refine OGo.step (fun uK kK => XS.iconst X41.here hx rfl (hb hby at_150) kK) ?_
      show OGo p e below _ (T41.setTop (mkF m 151 #[.val (.long q1), .second, .val (.long q2), .second, .val (.long uu), .second, .val (.int p3), .val (.long s0), .second, .val (.long s0), .second, .val (.int (2 : Int32)), .val (.ref b2), .unset, .unset, .unset, .unset, .unset] [(.int (1 : Int32)), (.int (2 : Int32))]))
      have hc151 : ¬ ((2 : Int32) = (1 : Int32)) := by decide
      refine OGo.step (fun uK kK => XS.icmpNo X41.here hx rfl (hb hby at_151) rfl (feq hc151).1 kK) ?_
      show OGo p e below _ (T41.setTop (mkF m 154 #[.val (.long q1), .second, .val (.long q2), .second, .val (.long uu), .second, .val (.int p3), .val (.long s0), .second, .val (.long s0), .second, .val (.int (2 : Int32)), .val (.ref b2), .unset, .unset, .unset, .unset, .unset] []))
      refine OGo.step (fun uK kK => XS.iload X41.here hx rfl (hb hby at_154) rfl kK) ?_
      refine OGo.step (fun uK kK => XS.iconst X41.here hx rfl (hb hby at_156) kK) ?_
      show OGo p e below _ (T41.setTop (mkF m 157 #[.val (.long q1), .second, .val (.long q2), .second, .val (.long uu), .second, .val (.int p3), .val (.long s0), .second, .val (.long s0), .second, .val (.int (2 : Int32)), .val (.ref b2), .unset, .unset, .unset, .unset, .unset] [(.int (2 : Int32)), (.int (2 : Int32))]))
      have hc157 : (2 : Int32) = (2 : Int32) := by decide
      refine OGo.step (fun uK kK => XS.icmpYes X41.here hx rfl (pc0 := 157) (pc' := 179) rfl (hb hby at_157) rfl (teq hc157).1 (by decide) (by decide) kK) ?_
      show OGo p e below _ (T41.setTop (mkF m 179 #[.val (.long q1), .second, .val (.long q2), .second, .val (.long uu), .second, .val (.int p3), .val (.long s0), .second, .val (.long s0), .second, .val (.int (2 : Int32)), .val (.ref b2), .unset, .unset, .unset, .unset, .unset] []))
      refine OGo.step (fun uK kK => XS.iconst X41.here hx rfl (hb hby at_179) kK) ?_
      show OGo p e below _ (T41.setTop (mkF m 180 #[.val (.long q1), .second, .val (.long q2), .second, .val (.long uu), .second, .val (.int p3), .val (.long s0), .second, .val (.long s0), .second, .val (.int (2 : Int32)), .val (.ref b2), .unset, .unset, .unset, .unset, .unset] [(.int (1 : Int32))]))
      refine OGo.step (fun uK kK => XS.goto X41.here hx rfl (pc0 := 180) (pc' := 184) rfl (hb hby at_180) (by decide) (by decide) kK) ?_
      show OGo p e below _ (T41.setTop (mkF m 184 #[.val (.long q1), .second, .val (.long q2), .second, .val (.long uu), .second, .val (.int p3), .val (.long s0), .second, .val (.long s0), .second, .val (.int (2 : Int32)), .val (.ref b2), .unset, .unset, .unset, .unset, .unset] [(.int (1 : Int32))]))
      refine OGo.step (fun uK kK => XS.istore X41.here hx rfl (hb hby at_184) rfl (l' := #[.val (.long q1), .second, .val (.long q2), .second, .val (.long uu), .second, .val (.int p3), .val (.long s0), .second, .val (.long s0), .second, .val (.int (2 : Int32)), .val (.ref b2), .val (.int (1 : Int32)), .unset, .unset, .unset, .unset]) rfl kK) ?_
      refine OGo.step (fun uK kK => XS.iload X41.here hx rfl (hb hby at_186) rfl kK) ?_
      refine OGo.step (fun uK kK => XS.iconst X41.here hx rfl (hb hby at_188) kK) ?_
      show OGo p e below _ (T41.setTop (mkF m 189 #[.val (.long q1), .second, .val (.long q2), .second, .val (.long uu), .second, .val (.int p3), .val (.long s0), .second, .val (.long s0), .second, .val (.int (2 : Int32)), .val (.ref b2), .val (.int (1 : Int32)), .unset, .unset, .unset, .unset] [(.int (3 : Int32)), (.int (2 : Int32))]))
      have hc189 : ¬ ((2 : Int32) = (3 : Int32)) := by decide
      refine OGo.step (fun uK kK => XS.icmpYes X41.here hx rfl (pc0 := 189) (pc' := 197) rfl (hb hby at_189) rfl (feq hc189).2 (by decide) (by decide) kK) ?_
      show OGo p e below _ (T41.setTop (mkF m 197 #[.val (.long q1), .second, .val (.long q2), .second, .val (.long uu), .second, .val (.int p3), .val (.long s0), .second, .val (.long s0), .second, .val (.int (2 : Int32)), .val (.ref b2), .val (.int (1 : Int32)), .unset, .unset, .unset, .unset] []))
      refine OGo.step (fun uK kK => XS.lload X41.here hx rfl (hb hby at_197) rfl kK) ?_
      show OGo p e below _ (T41.setTop (mkF m 199 #[.val (.long q1), .second, .val (.long q2), .second, .val (.long uu), .second, .val (.int p3), .val (.long s0), .second, .val (.long s0), .second, .val (.int (2 : Int32)), .val (.ref b2), .val (.int (1 : Int32)), .unset, .unset, .unset, .unset] [(.long s0)]))
      refine OGo.step (fun uK kK => XS.lstore X41.here hx rfl (hb hby at_199) rfl (l' := #[.val (.long q1), .second, .val (.long q2), .second, .val (.long uu), .second, .val (.int p3), .val (.long s0), .second, .val (.long s0), .second, .val (.int (2 : Int32)), .val (.ref b2), .val (.int (1 : Int32)), .val (.long s0), .second, .unset, .unset]) rfl kK) ?_
      refine OGo.step (fun uK kK => XS.iload X41.here hx rfl (hb hby at_201) rfl kK) ?_
      show OGo p e below _ (T41.setTop (mkF m 203 #[.val (.long q1), .second, .val (.long q2), .second, .val (.long uu), .second, .val (.int p3), .val (.long s0), .second, .val (.long s0), .second, .val (.int (2 : Int32)), .val (.ref b2), .val (.int (1 : Int32)), .val (.long s0), .second, .unset, .unset] [(.int (1 : Int32))]))
      have hc203 : ¬ ((1 : Int32) = (0 : Int32)) := by decide
      refine OGo.step (fun uK kK => XS.ifYes X41.here hx rfl (pc0 := 203) (pc' := 214) rfl (hb hby at_203) rfl ((if0 _ _).trans (feq hc203).2) (by decide) (by decide) kK) ?_
      show OGo p e below _ (T41.setTop (mkF m 214 #[.val (.long q1), .second, .val (.long q2), .second, .val (.long uu), .second, .val (.int p3), .val (.long s0), .second, .val (.long s0), .second, .val (.int (2 : Int32)), .val (.ref b2), .val (.int (1 : Int32)), .val (.long s0), .second, .unset, .unset] []))
      refine OGo.step (fun uK kK => XS.lload X41.here hx rfl (hb hby at_214) rfl kK) ?_
      refine OGo.step (fun uK kK => XS.lload X41.here hx rfl (hb hby at_216) rfl kK) ?_
      show OGo p e below _ (T41.setTop (mkF m 218 #[.val (.long q1), .second, .val (.long q2), .second, .val (.long uu), .second, .val (.int p3), .val (.long s0), .second, .val (.long s0), .second, .val (.int (2 : Int32)), .val (.ref b2), .val (.int (1 : Int32)), .val (.long s0), .second, .unset, .unset] [(.long uu), (.long s0)]))
      refine OGo.step (fun uK kK => XS.lcmp X41.here hx rfl (hb hby at_218) rfl kK) ?_
      show OGo p e below _ (T41.setTop (mkF m 219 #[.val (.long q1), .second, .val (.long q2), .second, .val (.long uu), .second, .val (.int p3), .val (.long s0), .second, .val (.long s0), .second, .val (.int (2 : Int32)), .val (.ref b2), .val (.int (1 : Int32)), .val (.long s0), .second, .unset, .unset] [(.int (lcmpW s0 uu))]))
      refine OGo.step (t' := T41.setTop (mkF m 234 #[.val (.long q1), .second, .val (.long q2), .second, .val (.long uu), .second, .val (.int p3), .val (.long s0), .second, .val (.long s0), .second, .val (.int (2 : Int32)), .val (.ref b2), .val (.int (1 : Int32)), .val (.long s0), .second, .val (.long (if s0 < uu then s0 else (-1 : Int64))), .second] [])) (fun uK kK => ?_) ?_
      · show Steps p.tables e below (T41.setTop (mkF m 219 #[.val (.long q1), .second, .val (.long q2), .second, .val (.long uu), .second, .val (.int p3), .val (.long s0), .second, .val (.long s0), .second, .val (.int (2 : Int32)), .val (.ref b2), .val (.int (1 : Int32)), .val (.long s0), .second, .unset, .unset] [(.int (lcmpW s0 uu))])) _
        by_cases hm219_48 : s0 < uu
        · try rw [if_pos hm219_48] at kK
          refine XS.ifNo X41.here hx rfl (hb hby at_219) rfl ((if0 _ _).trans (tlt ((lw_lt _ _).mpr hm219_48)).2.1) ?_
          refine XS.lload X41.here hx rfl (hb hby at_222) rfl ?_
          show Steps p.tables e below (T41.setTop (mkF m 224 #[.val (.long q1), .second, .val (.long q2), .second, .val (.long uu), .second, .val (.int p3), .val (.long s0), .second, .val (.long s0), .second, .val (.int (2 : Int32)), .val (.ref b2), .val (.int (1 : Int32)), .val (.long s0), .second, .unset, .unset] [(.long s0)])) _
          refine XS.lstore X41.here hx rfl (hb hby at_224) rfl (l' := #[.val (.long q1), .second, .val (.long q2), .second, .val (.long uu), .second, .val (.int p3), .val (.long s0), .second, .val (.long s0), .second, .val (.int (2 : Int32)), .val (.ref b2), .val (.int (1 : Int32)), .val (.long s0), .second, .val (.long s0), .second]) rfl ?_
          show Steps p.tables e below (T41.setTop (mkF m 226 #[.val (.long q1), .second, .val (.long q2), .second, .val (.long uu), .second, .val (.int p3), .val (.long s0), .second, .val (.long s0), .second, .val (.int (2 : Int32)), .val (.ref b2), .val (.int (1 : Int32)), .val (.long s0), .second, .val (.long s0), .second] [])) _
          refine XS.goto X41.here hx rfl (pc0 := 226) (pc' := 234) rfl (hb hby at_226) (by decide) (by decide) ?_
          show Steps p.tables e below (T41.setTop (mkF m 234 #[.val (.long q1), .second, .val (.long q2), .second, .val (.long uu), .second, .val (.int p3), .val (.long s0), .second, .val (.long s0), .second, .val (.int (2 : Int32)), .val (.ref b2), .val (.int (1 : Int32)), .val (.long s0), .second, .val (.long s0), .second] [])) _
          exact kK
        · try rw [if_neg hm219_48] at kK
          refine XS.ifYes X41.here hx rfl (pc0 := 219) (pc' := 229) rfl (hb hby at_219) rfl ((if0 _ _).trans (flt (fun q => hm219_48 ((lw_lt _ _).mp q))).2.1) (by decide) (by decide) ?_
          refine X41.ldc2J hx hown (mvT hZ (hw _ (List.mem_of_getElem? (i := 45) rfl))) rfl (hb hby at_229) ?_
          show Steps p.tables e below (T41.setTop (mkF m 232 #[.val (.long q1), .second, .val (.long q2), .second, .val (.long uu), .second, .val (.int p3), .val (.long s0), .second, .val (.long s0), .second, .val (.int (2 : Int32)), .val (.ref b2), .val (.int (1 : Int32)), .val (.long s0), .second, .unset, .unset] [(.long (-1 : Int64))])) _
          refine XS.lstore X41.here hx rfl (hb hby at_232) rfl (l' := #[.val (.long q1), .second, .val (.long q2), .second, .val (.long uu), .second, .val (.int p3), .val (.long s0), .second, .val (.long s0), .second, .val (.int (2 : Int32)), .val (.ref b2), .val (.int (1 : Int32)), .val (.long s0), .second, .val (.long (-1 : Int64)), .second]) rfl ?_
          show Steps p.tables e below (T41.setTop (mkF m 234 #[.val (.long q1), .second, .val (.long q2), .second, .val (.long uu), .second, .val (.int p3), .val (.long s0), .second, .val (.long s0), .second, .val (.int (2 : Int32)), .val (.ref b2), .val (.int (1 : Int32)), .val (.long s0), .second, .val (.long (-1 : Int64)), .second] [])) _
          exact kK
      show OGo p e below _ (T41.setTop (mkF m 234 #[.val (.long q1), .second, .val (.long q2), .second, .val (.long uu), .second, .val (.int p3), .val (.long s0), .second, .val (.long s0), .second, .val (.int (2 : Int32)), .val (.ref b2), .val (.int (1 : Int32)), .val (.long s0), .second, .val (.long (if s0 < uu then s0 else (-1 : Int64))), .second] []))
      refine OGo.step (fun uK kK => XS.aload X41.here hx rfl (hb hby at_234) rfl rfl kK) ?_
      refine OGo.step (fun uK kK => XS.lload X41.here hx rfl (hb hby at_236) rfl kK) ?_
      show OGo p e below _ (T41.setTop (mkF m 238 #[.val (.long q1), .second, .val (.long q2), .second, .val (.long uu), .second, .val (.int p3), .val (.long s0), .second, .val (.long s0), .second, .val (.int (2 : Int32)), .val (.ref b2), .val (.int (1 : Int32)), .val (.long s0), .second, .val (.long (if s0 < uu then s0 else (-1 : Int64))), .second] [(.long uu), (.ref b2)]))
      obtain ⟨cq49, kq49, q49a, q49b, q49c⟩ := isOf hZ rfl A2_42
      obtain ⟨_, _, ⟨T49, Lq49, kq_49, nq_49⟩, -, X49, ⟨Lc49, hQ49, lq49, yq49, zq49⟩, st49⟩ := X41.virtualBack hx (y := (⟨"com/example/graph_of_conflicts/graphofconflicts/engine/OpenSnapshots", "earliestBefore", "(J)J"⟩ : MethodName)) (z := (⟨"com/example/graph_of_conflicts/graphofconflicts/engine/OpenSnapshots", "earliestBefore", "(J)J"⟩ : MethodName)) hown (mvT hZ (hw _ (List.mem_of_getElem? (i := 46) rfl))) (mvT hZ (hw _ (List.mem_of_getElem? (i := 47) rfl))) (notFace_of_selects (args := #[]) (mvT hZ (hw _ (List.mem_of_getElem? (i := 49) rfl)))) (mvT hZ (hw _ (List.mem_of_getElem? (i := 49) rfl))) (mvT hZ (hw _ (List.mem_of_getElem? (i := 48) rfl))) (by decide) (backOf (W := 0) (rme1 l Z a0 hw [] b2 uu aS kS s0 (0 : Int64) (0 : Int64) (0 : Int64) (0 : Int64) (0 : Int64) (0 : Int64) (0 : Int64) T41.heap n0 ZS41 Fs41 Fn41 Vs41) hZ (hw _ (List.mem_of_getElem? (i := 50) rfl)) (hw _ (List.mem_of_getElem? (i := 7) rfl)) (by decide) (by decide)) q49a q49c (g := (mkF m 238 #[.val (.long q1), .second, .val (.long q2), .second, .val (.long uu), .second, .val (.int p3), .val (.long s0), .second, .val (.long s0), .second, .val (.int (2 : Int32)), .val (.ref b2), .val (.int (1 : Int32)), .val (.long s0), .second, .val (.long (if s0 < uu then s0 else (-1 : Int64))), .second] [(.long uu), (.ref b2)])) rfl (by rw [hml]; rfl) (Steps.refl _) (argsL := [(.long uu)]) (rest := []) (lenOf pd0_2 rfl) rfl (by show 2 * 0 + _ ≤ _; exact Nat.le_of_eq rfl) (hb hby at_238) (fun _ _ => ⟨rfl, rfl, (by decide : 3 + 0 ≤ _), (by decide : 19 + 0 ≤ _)⟩)
      dsimp only [Pt.U, Pt.locs, Pt.cells, Pt.slots] at X49 lq49 yq49 zq49 st49 hQ49
      subst lq49 yq49 zq49
      obtain ⟨rfl, Nq49, e49⟩ := hQ49
      have N49 := Fr.app N41 Nq49
      refine OGo.steps st49 ?_
      show OGo p e below _ (T49.setTop (mkF m 241 #[.val (.long q1), .second, .val (.long q2), .second, .val (.long uu), .second, .val (.int p3), .val (.long s0), .second, .val (.long s0), .second, .val (.int (2 : Int32)), .val (.ref b2), .val (.int (1 : Int32)), .val (.long s0), .second, .val (.long (if s0 < uu then s0 else (-1 : Int64))), .second] [(.long (if s0 < uu then s0 else (-1 : Int64)))]))
      refine OGo.step (fun uK kK => XS.lload X49.here hx rfl (hb hby at_241) rfl kK) ?_
      show OGo p e below _ (T49.setTop (mkF m 243 #[.val (.long q1), .second, .val (.long q2), .second, .val (.long uu), .second, .val (.int p3), .val (.long s0), .second, .val (.long s0), .second, .val (.int (2 : Int32)), .val (.ref b2), .val (.int (1 : Int32)), .val (.long s0), .second, .val (.long (if s0 < uu then s0 else (-1 : Int64))), .second] [(.long (if s0 < uu then s0 else (-1 : Int64))), (.long (if s0 < uu then s0 else (-1 : Int64)))]))
      refine OGo.step (fun uK kK => XS.lcmp X49.here hx rfl (hb hby at_243) rfl kK) ?_
      show OGo p e below _ (T49.setTop (mkF m 244 #[.val (.long q1), .second, .val (.long q2), .second, .val (.long uu), .second, .val (.int p3), .val (.long s0), .second, .val (.long s0), .second, .val (.int (2 : Int32)), .val (.ref b2), .val (.int (1 : Int32)), .val (.long s0), .second, .val (.long (if s0 < uu then s0 else (-1 : Int64))), .second] [(.int (lcmpW (if s0 < uu then s0 else (-1 : Int64)) (if s0 < uu then s0 else (-1 : Int64))))]))
      have hc244 : (if s0 < uu then s0 else (-1 : Int64)) = (if s0 < uu then s0 else (-1 : Int64)) := rfl
      refine OGo.step (fun uK kK => XS.ifNo X49.here hx rfl (hb hby at_244) rfl ((if0 _ _).trans (teq ((lw_eq _ _).mpr hc244)).2) kK) ?_
      show OGo p e below _ (T49.setTop (mkF m 247 #[.val (.long q1), .second, .val (.long q2), .second, .val (.long uu), .second, .val (.int p3), .val (.long s0), .second, .val (.long s0), .second, .val (.int (2 : Int32)), .val (.ref b2), .val (.int (1 : Int32)), .val (.long s0), .second, .val (.long (if s0 < uu then s0 else (-1 : Int64))), .second] []))
      refine OGo.step (fun uK kK => XS.iconst X49.here hx rfl (hb hby at_247) kK) ?_
      show OGo p e below _ (T49.setTop (mkF m 248 #[.val (.long q1), .second, .val (.long q2), .second, .val (.long uu), .second, .val (.int p3), .val (.long s0), .second, .val (.long s0), .second, .val (.int (2 : Int32)), .val (.ref b2), .val (.int (1 : Int32)), .val (.long s0), .second, .val (.long (if s0 < uu then s0 else (-1 : Int64))), .second] [(.int (1 : Int32))]))
      refine OGo.step (fun uK kK => XS.goto X49.here hx rfl (pc0 := 248) (pc' := 252) rfl (hb hby at_248) (by decide) (by decide) kK) ?_
      show OGo p e below _ (T49.setTop (mkF m 252 #[.val (.long q1), .second, .val (.long q2), .second, .val (.long uu), .second, .val (.int p3), .val (.long s0), .second, .val (.long s0), .second, .val (.int (2 : Int32)), .val (.ref b2), .val (.int (1 : Int32)), .val (.long s0), .second, .val (.long (if s0 < uu then s0 else (-1 : Int64))), .second] [(.int (1 : Int32))]))
      exact OGo.retN X49 hx Bd.notSynchronized (t := .boolean) Bd.returns (by simp) (hb hby at_252) (by decide) (by decide) (by show Q0 Z q1 q2 uu p3 h0 n0 _ T49.heap _; rw [e49]; exact ⟨rfl, N49⟩)
  · skip
    subst h
    show OGo p e below _ (T3.setTop (mkF m 35 #[.val (.long q1), .second, .val (.long q2), .second, .val (.long uu), .second, .val (.int p3), .val (.long s0), .second, .val (.long s1), .second, .val (.int (3 : Int32)), .val (.ref b2), .unset, .unset, .unset, .unset, .unset] []))
    rcases own_max s0 _ s1 ev_s1 with hlt | heq
    · skip
      refine OGo.step (fun uK kK => XS.iload X3.here hx rfl (hb hby at_35) rfl kK) ?_
      show OGo p e below _ (T3.setTop (mkF m 37 #[.val (.long q1), .second, .val (.long q2), .second, .val (.long uu), .second, .val (.int p3), .val (.long s0), .second, .val (.long s1), .second, .val (.int (3 : Int32)), .val (.ref b2), .unset, .unset, .unset, .unset, .unset] [(.int (3 : Int32))]))
      have hc37 : ¬ ((3 : Int32) = (0 : Int32)) := by decide
      refine OGo.step (fun uK kK => XS.ifNo X3.here hx rfl (hb hby at_37) rfl ((if0 _ _).trans (feq hc37).1) kK) ?_
      show OGo p e below _ (T3.setTop (mkF m 40 #[.val (.long q1), .second, .val (.long q2), .second, .val (.long uu), .second, .val (.int p3), .val (.long s0), .second, .val (.long s1), .second, .val (.int (3 : Int32)), .val (.ref b2), .unset, .unset, .unset, .unset, .unset] []))
      refine OGo.step (fun uK kK => XS.aload X3.here hx rfl (hb hby at_40) rfl rfl kK) ?_
      refine OGo.step (fun uK kK => XS.lload X3.here hx rfl (hb hby at_42) rfl kK) ?_
      show OGo p e below _ (T3.setTop (mkF m 44 #[.val (.long q1), .second, .val (.long q2), .second, .val (.long uu), .second, .val (.int p3), .val (.long s0), .second, .val (.long s1), .second, .val (.int (3 : Int32)), .val (.ref b2), .unset, .unset, .unset, .unset, .unset] [(.long s0), (.ref b2)]))
      obtain ⟨cq50, kq50, q50a, q50b, q50c⟩ := isOf hZ rfl A2_4
      obtain ⟨_, _, ⟨T50, Lq50, kq_50, nq_50⟩, -, X50, ⟨Lc50, hQ50, lq50, yq50, zq50⟩, st50⟩ := X3.virtualBack hx (y := (⟨"com/example/graph_of_conflicts/graphofconflicts/engine/OpenSnapshots", "add", "(J)V"⟩ : MethodName)) (z := (⟨"com/example/graph_of_conflicts/graphofconflicts/engine/OpenSnapshots", "add", "(J)V"⟩ : MethodName)) hown (mvT hZ (hw _ (List.mem_of_getElem? (i := 20) rfl))) (mvT hZ (hw _ (List.mem_of_getElem? (i := 21) rfl))) (notFace_of_selects (args := #[]) (mvT hZ (hw _ (List.mem_of_getElem? (i := 23) rfl)))) (mvT hZ (hw _ (List.mem_of_getElem? (i := 23) rfl))) (mvT hZ (hw _ (List.mem_of_getElem? (i := 22) rfl))) (by decide) (backOf (W := 0) (rma0 l Z a0 hw [] b2 aS kS (0 : Int64) (0 : Int64) (0 : Int64) (0 : Int64) (0 : Int64) (0 : Int64) (0 : Int64) (0 : Int64) aH kH (0 : Int32) (0 : Int32) (0 : Int32) (0 : Int32) (0 : Int32) (0 : Int32) (0 : Int32) (0 : Int32) s0 T3.heap n0 ZS3 Fs3 Fh3 Fn3 Vs3 Vh3 A2_4 gn_b2 gS gH ne_b2_aS ne_b2_aH neSH) hZ (hw _ (List.mem_of_getElem? (i := 24) rfl)) (hw _ (List.mem_of_getElem? (i := 7) rfl)) (by decide) (by decide)) q50a q50c (g := (mkF m 44 #[.val (.long q1), .second, .val (.long q2), .second, .val (.long uu), .second, .val (.int p3), .val (.long s0), .second, .val (.long s1), .second, .val (.int (3 : Int32)), .val (.ref b2), .unset, .unset, .unset, .unset, .unset] [(.long s0), (.ref b2)])) rfl (by rw [hml]; rfl) (Steps.refl _) (argsL := [(.long s0)]) (rest := []) (lenOf pd0_3 rfl) rfl (by show 2 * 0 + _ ≤ _; exact Nat.le_of_eq rfl) (hb hby at_44) (fun _ _ => ⟨rfl, rfl, (by decide : 3 + 0 ≤ _), (by decide : 19 + 0 ≤ _)⟩)
      dsimp only [Pt.U, Pt.locs, Pt.cells, Pt.slots] at X50 lq50 yq50 zq50 st50 hQ50
      subst lq50 yq50 zq50
      obtain ⟨rfl, Nq50, K50, Fs50, Fh50, Fn50, Vs50, Vh50⟩ := hQ50
      have A2_51 := (A2_4.keep K50)
      have ZS50 : n0 ≤ T50.heap.size := Nat.le_trans ZS3 K50.1
      have KC50 : Keep h0 T50.heap [] := KC3.trans K50 (allS (Or.inr sz_b2) (allS (Or.inr sz_aS) (allS (Or.inr sz_aH) all0)))
      have N50 := Fr.app N3 Nq50
      refine OGo.steps st50 ?_
      show OGo p e below _ (T50.setTop (mkF m 47 #[.val (.long q1), .second, .val (.long q2), .second, .val (.long uu), .second, .val (.int p3), .val (.long s0), .second, .val (.long s1), .second, .val (.int (3 : Int32)), .val (.ref b2), .unset, .unset, .unset, .unset, .unset] []))
      refine OGo.step (fun uK kK => XS.iload X50.here hx rfl (hb hby at_47) rfl kK) ?_
      refine OGo.step (fun uK kK => XS.iconst X50.here hx rfl (hb hby at_49) kK) ?_
      show OGo p e below _ (T50.setTop (mkF m 50 #[.val (.long q1), .second, .val (.long q2), .second, .val (.long uu), .second, .val (.int p3), .val (.long s0), .second, .val (.long s1), .second, .val (.int (3 : Int32)), .val (.ref b2), .unset, .unset, .unset, .unset, .unset] [(.int (2 : Int32)), (.int (3 : Int32))]))
      have hc50 : ¬ ((3 : Int32) = (2 : Int32)) := by decide
      refine OGo.step (fun uK kK => XS.icmpNo X50.here hx rfl (hb hby at_50) rfl (feq hc50).1 kK) ?_
      show OGo p e below _ (T50.setTop (mkF m 53 #[.val (.long q1), .second, .val (.long q2), .second, .val (.long uu), .second, .val (.int p3), .val (.long s0), .second, .val (.long s1), .second, .val (.int (3 : Int32)), .val (.ref b2), .unset, .unset, .unset, .unset, .unset] []))
      refine OGo.step (fun uK kK => XS.iload X50.here hx rfl (hb hby at_53) rfl kK) ?_
      refine OGo.step (fun uK kK => XS.iconst X50.here hx rfl (hb hby at_55) kK) ?_
      show OGo p e below _ (T50.setTop (mkF m 56 #[.val (.long q1), .second, .val (.long q2), .second, .val (.long uu), .second, .val (.int p3), .val (.long s0), .second, .val (.long s1), .second, .val (.int (3 : Int32)), .val (.ref b2), .unset, .unset, .unset, .unset, .unset] [(.int (3 : Int32)), (.int (3 : Int32))]))
      have hc56 : (3 : Int32) = (3 : Int32) := by decide
      refine OGo.step (fun uK kK => XS.icmpYes X50.here hx rfl (pc0 := 56) (pc' := 72) rfl (hb hby at_56) rfl (teq hc56).1 (by decide) (by decide) kK) ?_
      show OGo p e below _ (T50.setTop (mkF m 72 #[.val (.long q1), .second, .val (.long q2), .second, .val (.long uu), .second, .val (.int p3), .val (.long s0), .second, .val (.long s1), .second, .val (.int (3 : Int32)), .val (.ref b2), .unset, .unset, .unset, .unset, .unset] []))
      refine OGo.step (fun uK kK => XS.aload X50.here hx rfl (hb hby at_72) rfl rfl kK) ?_
      refine OGo.step (fun uK kK => XS.lload X50.here hx rfl (hb hby at_74) rfl kK) ?_
      show OGo p e below _ (T50.setTop (mkF m 76 #[.val (.long q1), .second, .val (.long q2), .second, .val (.long uu), .second, .val (.int p3), .val (.long s0), .second, .val (.long s1), .second, .val (.int (3 : Int32)), .val (.ref b2), .unset, .unset, .unset, .unset, .unset] [(.long s1), (.ref b2)]))
      obtain ⟨cq57, kq57, q57a, q57b, q57c⟩ := isOf hZ rfl A2_51
      obtain ⟨_, _, ⟨T57, Lq57, kq_57, nq_57⟩, -, X57, ⟨Lc57, hQ57, lq57, yq57, zq57⟩, st57⟩ := X50.virtualBack hx (y := (⟨"com/example/graph_of_conflicts/graphofconflicts/engine/OpenSnapshots", "add", "(J)V"⟩ : MethodName)) (z := (⟨"com/example/graph_of_conflicts/graphofconflicts/engine/OpenSnapshots", "add", "(J)V"⟩ : MethodName)) hown (mvT hZ (hw _ (List.mem_of_getElem? (i := 20) rfl))) (mvT hZ (hw _ (List.mem_of_getElem? (i := 21) rfl))) (notFace_of_selects (args := #[]) (mvT hZ (hw _ (List.mem_of_getElem? (i := 23) rfl)))) (mvT hZ (hw _ (List.mem_of_getElem? (i := 23) rfl))) (mvT hZ (hw _ (List.mem_of_getElem? (i := 22) rfl))) (by decide) (backOf (W := 0) (rma1 l Z a0 hw [] b2 aS kS s0 (0 : Int64) (0 : Int64) (0 : Int64) (0 : Int64) (0 : Int64) (0 : Int64) (0 : Int64) aH kH (1 : Int32) (0 : Int32) (0 : Int32) (0 : Int32) (0 : Int32) (0 : Int32) (0 : Int32) (0 : Int32) s1 T50.heap n0 ZS50 Fs50 Fh50 Fn50 Vs50 Vh50 A2_51 gn_b2 gS gH ne_b2_aS ne_b2_aH neSH hlt) hZ (hw _ (List.mem_of_getElem? (i := 24) rfl)) (hw _ (List.mem_of_getElem? (i := 7) rfl)) (by decide) (by decide)) q57a q57c (g := (mkF m 76 #[.val (.long q1), .second, .val (.long q2), .second, .val (.long uu), .second, .val (.int p3), .val (.long s0), .second, .val (.long s1), .second, .val (.int (3 : Int32)), .val (.ref b2), .unset, .unset, .unset, .unset, .unset] [(.long s1), (.ref b2)])) rfl (by rw [hml]; rfl) (Steps.refl _) (argsL := [(.long s1)]) (rest := []) (lenOf pd0_3 rfl) rfl (by show 2 * 0 + _ ≤ _; exact Nat.le_of_eq rfl) (hb hby at_76) (fun _ _ => ⟨rfl, rfl, (by decide : 3 + 0 ≤ _), (by decide : 19 + 0 ≤ _)⟩)
      dsimp only [Pt.U, Pt.locs, Pt.cells, Pt.slots] at X57 lq57 yq57 zq57 st57 hQ57
      subst lq57 yq57 zq57
      obtain ⟨rfl, Nq57, K57, Fs57, Fh57, Fn57, Vs57, Vh57⟩ := hQ57
      have A2_58 := (A2_51.keep K57)
      have ZS57 : n0 ≤ T57.heap.size := Nat.le_trans ZS50 K57.1
      have KC57 : Keep h0 T57.heap [] := KC50.trans K57 (allS (Or.inr sz_b2) (allS (Or.inr sz_aS) (allS (Or.inr sz_aH) all0)))
      have N57 := Fr.app N50 Nq57
      refine OGo.steps st57 ?_
      show OGo p e below _ (T57.setTop (mkF m 79 #[.val (.long q1), .second, .val (.long q2), .second, .val (.long uu), .second, .val (.int p3), .val (.long s0), .second, .val (.long s1), .second, .val (.int (3 : Int32)), .val (.ref b2), .unset, .unset, .unset, .unset, .unset] []))
      refine OGo.step (fun uK kK => XS.iload X57.here hx rfl (hb hby at_79) rfl kK) ?_
      refine OGo.step (fun uK kK => XS.bipush X57.here hx rfl (hb hby at_81) kK) ?_
      show OGo p e below _ (T57.setTop (mkF m 83 #[.val (.long q1), .second, .val (.long q2), .second, .val (.long uu), .second, .val (.int p3), .val (.long s0), .second, .val (.long s1), .second, .val (.int (3 : Int32)), .val (.ref b2), .unset, .unset, .unset, .unset, .unset] [(.int (6 : Int32)), (.int (3 : Int32))]))
      have hc83 : ¬ ((3 : Int32) = (6 : Int32)) := by decide
      refine OGo.step (fun uK kK => XS.icmpYes X57.here hx rfl (pc0 := 83) (pc' := 93) rfl (hb hby at_83) rfl (feq hc83).2 (by decide) (by decide) kK) ?_
      show OGo p e below _ (T57.setTop (mkF m 93 #[.val (.long q1), .second, .val (.long q2), .second, .val (.long uu), .second, .val (.int p3), .val (.long s0), .second, .val (.long s1), .second, .val (.int (3 : Int32)), .val (.ref b2), .unset, .unset, .unset, .unset, .unset] []))
      refine OGo.step (fun uK kK => XS.iload X57.here hx rfl (hb hby at_93) rfl kK) ?_
      refine OGo.step (fun uK kK => XS.iconst X57.here hx rfl (hb hby at_95) kK) ?_
      show OGo p e below _ (T57.setTop (mkF m 96 #[.val (.long q1), .second, .val (.long q2), .second, .val (.long uu), .second, .val (.int p3), .val (.long s0), .second, .val (.long s1), .second, .val (.int (3 : Int32)), .val (.ref b2), .unset, .unset, .unset, .unset, .unset] [(.int (3 : Int32)), (.int (3 : Int32))]))
      have hc96 : (3 : Int32) = (3 : Int32) := by decide
      refine OGo.step (fun uK kK => XS.icmpYes X57.here hx rfl (pc0 := 96) (pc' := 119) rfl (hb hby at_96) rfl (teq hc96).1 (by decide) (by decide) kK) ?_
      show OGo p e below _ (T57.setTop (mkF m 119 #[.val (.long q1), .second, .val (.long q2), .second, .val (.long uu), .second, .val (.int p3), .val (.long s0), .second, .val (.long s1), .second, .val (.int (3 : Int32)), .val (.ref b2), .unset, .unset, .unset, .unset, .unset] []))
      refine OGo.step (fun uK kK => XS.aload X57.here hx rfl (hb hby at_119) rfl rfl kK) ?_
      refine OGo.step (fun uK kK => XS.lload X57.here hx rfl (hb hby at_121) rfl kK) ?_
      show OGo p e below _ (T57.setTop (mkF m 123 #[.val (.long q1), .second, .val (.long q2), .second, .val (.long uu), .second, .val (.int p3), .val (.long s0), .second, .val (.long s1), .second, .val (.int (3 : Int32)), .val (.ref b2), .unset, .unset, .unset, .unset, .unset] [(.long s0), (.ref b2)]))
      obtain ⟨cq64, kq64, q64a, q64b, q64c⟩ := isOf hZ rfl A2_58
      obtain ⟨_, _, ⟨T64, Lq64, kq_64, nq_64⟩, -, X64, ⟨Lc64, hQ64, lq64, yq64, zq64⟩, st64⟩ := X57.virtualBack hx (y := (⟨"com/example/graph_of_conflicts/graphofconflicts/engine/OpenSnapshots", "remove", "(J)Z"⟩ : MethodName)) (z := (⟨"com/example/graph_of_conflicts/graphofconflicts/engine/OpenSnapshots", "remove", "(J)Z"⟩ : MethodName)) hown (mvT hZ (hw _ (List.mem_of_getElem? (i := 52) rfl))) (mvT hZ (hw _ (List.mem_of_getElem? (i := 53) rfl))) (notFace_of_selects (args := #[]) (mvT hZ (hw _ (List.mem_of_getElem? (i := 55) rfl)))) (mvT hZ (hw _ (List.mem_of_getElem? (i := 55) rfl))) (mvT hZ (hw _ (List.mem_of_getElem? (i := 54) rfl))) (by decide) (backOf (W := 0) (rmr3 l Z a0 hw [] b2 aS kS s0 s1 (0 : Int64) (0 : Int64) (0 : Int64) (0 : Int64) (0 : Int64) (0 : Int64) aH kH (1 : Int32) (1 : Int32) (0 : Int32) (0 : Int32) (0 : Int32) (0 : Int32) (0 : Int32) (0 : Int32) T57.heap n0 ZS57 Fs57 Fh57 Fn57 Vs57 Vh57 A2_58 gn_b2 gS gH ne_b2_aS ne_b2_aH neSH hlt) hZ (hw _ (List.mem_of_getElem? (i := 56) rfl)) (hw _ (List.mem_of_getElem? (i := 7) rfl)) (by decide) (by decide)) q64a q64c (g := (mkF m 123 #[.val (.long q1), .second, .val (.long q2), .second, .val (.long uu), .second, .val (.int p3), .val (.long s0), .second, .val (.long s1), .second, .val (.int (3 : Int32)), .val (.ref b2), .unset, .unset, .unset, .unset, .unset] [(.long s0), (.ref b2)])) rfl (by rw [hml]; rfl) (Steps.refl _) (argsL := [(.long s0)]) (rest := []) (lenOf pd0_4 rfl) rfl (by show 2 * 0 + _ ≤ _; exact Nat.le_of_eq rfl) (hb hby at_123) (fun _ _ => ⟨rfl, rfl, (by decide : 3 + 0 ≤ _), (by decide : 19 + 0 ≤ _)⟩)
      dsimp only [Pt.U, Pt.locs, Pt.cells, Pt.slots] at X64 lq64 yq64 zq64 st64 hQ64
      subst lq64 yq64 zq64
      obtain ⟨rfl, Nq64, K64, Fs64, Fh64, Fn64, Vs64, Vh64⟩ := hQ64
      have A2_65 := (A2_58.keep K64)
      have ZS64 : n0 ≤ T64.heap.size := Nat.le_trans ZS57 K64.1
      have KC64 : Keep h0 T64.heap [] := KC57.trans K64 (allS (Or.inr sz_b2) (allS (Or.inr sz_aS) (allS (Or.inr sz_aH) all0)))
      have N64 := Fr.app N57 Nq64
      refine OGo.steps st64 ?_
      show OGo p e below _ (T64.setTop (mkF m 126 #[.val (.long q1), .second, .val (.long q2), .second, .val (.long uu), .second, .val (.int p3), .val (.long s0), .second, .val (.long s1), .second, .val (.int (3 : Int32)), .val (.ref b2), .unset, .unset, .unset, .unset, .unset] [(.int (1 : Int32))]))
      refine OGo.step (fun uK kK => XS.pop X64.here hx rfl (hb hby at_126) rfl rfl kK) ?_
      refine OGo.step (fun uK kK => XS.iload X64.here hx rfl (hb hby at_127) rfl kK) ?_
      refine OGo.step (fun uK kK => XS.iconst X64.here hx rfl (hb hby at_129) kK) ?_
      show OGo p e below _ (T64.setTop (mkF m 130 #[.val (.long q1), .second, .val (.long q2), .second, .val (.long uu), .second, .val (.int p3), .val (.long s0), .second, .val (.long s1), .second, .val (.int (3 : Int32)), .val (.ref b2), .unset, .unset, .unset, .unset, .unset] [(.int (5 : Int32)), (.int (3 : Int32))]))
      have hc130 : ¬ ((3 : Int32) = (5 : Int32)) := by decide
      refine OGo.step (fun uK kK => XS.icmpNo X64.here hx rfl (hb hby at_130) rfl (feq hc130).1 kK) ?_
      show OGo p e below _ (T64.setTop (mkF m 133 #[.val (.long q1), .second, .val (.long q2), .second, .val (.long uu), .second, .val (.int p3), .val (.long s0), .second, .val (.long s1), .second, .val (.int (3 : Int32)), .val (.ref b2), .unset, .unset, .unset, .unset, .unset] []))
      refine OGo.step (fun uK kK => XS.iload X64.here hx rfl (hb hby at_133) rfl kK) ?_
      refine OGo.step (fun uK kK => XS.bipush X64.here hx rfl (hb hby at_135) kK) ?_
      show OGo p e below _ (T64.setTop (mkF m 137 #[.val (.long q1), .second, .val (.long q2), .second, .val (.long uu), .second, .val (.int p3), .val (.long s0), .second, .val (.long s1), .second, .val (.int (3 : Int32)), .val (.ref b2), .unset, .unset, .unset, .unset, .unset] [(.int (7 : Int32)), (.int (3 : Int32))]))
      have hc137 : ¬ ((3 : Int32) = (7 : Int32)) := by decide
      refine OGo.step (fun uK kK => XS.icmpYes X64.here hx rfl (pc0 := 137) (pc' := 148) rfl (hb hby at_137) rfl (feq hc137).2 (by decide) (by decide) kK) ?_
      show OGo p e below _ (T64.setTop (mkF m 148 #[.val (.long q1), .second, .val (.long q2), .second, .val (.long uu), .second, .val (.int p3), .val (.long s0), .second, .val (.long s1), .second, .val (.int (3 : Int32)), .val (.ref b2), .unset, .unset, .unset, .unset, .unset] []))
      refine OGo.step (fun uK kK => XS.iload X64.here hx rfl (hb hby at_148) rfl kK) ?_
      refine OGo.step (fun uK kK => XS.iconst X64.here hx rfl (hb hby at_150) kK) ?_
      show OGo p e below _ (T64.setTop (mkF m 151 #[.val (.long q1), .second, .val (.long q2), .second, .val (.long uu), .second, .val (.int p3), .val (.long s0), .second, .val (.long s1), .second, .val (.int (3 : Int32)), .val (.ref b2), .unset, .unset, .unset, .unset, .unset] [(.int (1 : Int32)), (.int (3 : Int32))]))
      have hc151 : ¬ ((3 : Int32) = (1 : Int32)) := by decide
      refine OGo.step (fun uK kK => XS.icmpNo X64.here hx rfl (hb hby at_151) rfl (feq hc151).1 kK) ?_
      show OGo p e below _ (T64.setTop (mkF m 154 #[.val (.long q1), .second, .val (.long q2), .second, .val (.long uu), .second, .val (.int p3), .val (.long s0), .second, .val (.long s1), .second, .val (.int (3 : Int32)), .val (.ref b2), .unset, .unset, .unset, .unset, .unset] []))
      refine OGo.step (fun uK kK => XS.iload X64.here hx rfl (hb hby at_154) rfl kK) ?_
      refine OGo.step (fun uK kK => XS.iconst X64.here hx rfl (hb hby at_156) kK) ?_
      show OGo p e below _ (T64.setTop (mkF m 157 #[.val (.long q1), .second, .val (.long q2), .second, .val (.long uu), .second, .val (.int p3), .val (.long s0), .second, .val (.long s1), .second, .val (.int (3 : Int32)), .val (.ref b2), .unset, .unset, .unset, .unset, .unset] [(.int (2 : Int32)), (.int (3 : Int32))]))
      have hc157 : ¬ ((3 : Int32) = (2 : Int32)) := by decide
      refine OGo.step (fun uK kK => XS.icmpNo X64.here hx rfl (hb hby at_157) rfl (feq hc157).1 kK) ?_
      show OGo p e below _ (T64.setTop (mkF m 160 #[.val (.long q1), .second, .val (.long q2), .second, .val (.long uu), .second, .val (.int p3), .val (.long s0), .second, .val (.long s1), .second, .val (.int (3 : Int32)), .val (.ref b2), .unset, .unset, .unset, .unset, .unset] []))
      refine OGo.step (fun uK kK => XS.iload X64.here hx rfl (hb hby at_160) rfl kK) ?_
      refine OGo.step (fun uK kK => XS.iconst X64.here hx rfl (hb hby at_162) kK) ?_
      show OGo p e below _ (T64.setTop (mkF m 163 #[.val (.long q1), .second, .val (.long q2), .second, .val (.long uu), .second, .val (.int p3), .val (.long s0), .second, .val (.long s1), .second, .val (.int (3 : Int32)), .val (.ref b2), .unset, .unset, .unset, .unset, .unset] [(.int (3 : Int32)), (.int (3 : Int32))]))
      have hc163 : (3 : Int32) = (3 : Int32) := by decide
      refine OGo.step (fun uK kK => XS.icmpYes X64.here hx rfl (pc0 := 163) (pc' := 179) rfl (hb hby at_163) rfl (teq hc163).1 (by decide) (by decide) kK) ?_
      show OGo p e below _ (T64.setTop (mkF m 179 #[.val (.long q1), .second, .val (.long q2), .second, .val (.long uu), .second, .val (.int p3), .val (.long s0), .second, .val (.long s1), .second, .val (.int (3 : Int32)), .val (.ref b2), .unset, .unset, .unset, .unset, .unset] []))
      refine OGo.step (fun uK kK => XS.iconst X64.here hx rfl (hb hby at_179) kK) ?_
      show OGo p e below _ (T64.setTop (mkF m 180 #[.val (.long q1), .second, .val (.long q2), .second, .val (.long uu), .second, .val (.int p3), .val (.long s0), .second, .val (.long s1), .second, .val (.int (3 : Int32)), .val (.ref b2), .unset, .unset, .unset, .unset, .unset] [(.int (1 : Int32))]))
      refine OGo.step (fun uK kK => XS.goto X64.here hx rfl (pc0 := 180) (pc' := 184) rfl (hb hby at_180) (by decide) (by decide) kK) ?_
      show OGo p e below _ (T64.setTop (mkF m 184 #[.val (.long q1), .second, .val (.long q2), .second, .val (.long uu), .second, .val (.int p3), .val (.long s0), .second, .val (.long s1), .second, .val (.int (3 : Int32)), .val (.ref b2), .unset, .unset, .unset, .unset, .unset] [(.int (1 : Int32))]))
      refine OGo.step (fun uK kK => XS.istore X64.here hx rfl (hb hby at_184) rfl (l' := #[.val (.long q1), .second, .val (.long q2), .second, .val (.long uu), .second, .val (.int p3), .val (.long s0), .second, .val (.long s1), .second, .val (.int (3 : Int32)), .val (.ref b2), .val (.int (1 : Int32)), .unset, .unset, .unset, .unset]) rfl kK) ?_
      refine OGo.step (fun uK kK => XS.iload X64.here hx rfl (hb hby at_186) rfl kK) ?_
      refine OGo.step (fun uK kK => XS.iconst X64.here hx rfl (hb hby at_188) kK) ?_
      show OGo p e below _ (T64.setTop (mkF m 189 #[.val (.long q1), .second, .val (.long q2), .second, .val (.long uu), .second, .val (.int p3), .val (.long s0), .second, .val (.long s1), .second, .val (.int (3 : Int32)), .val (.ref b2), .val (.int (1 : Int32)), .unset, .unset, .unset, .unset] [(.int (3 : Int32)), (.int (3 : Int32))]))
      have hc189 : (3 : Int32) = (3 : Int32) := by decide
      refine OGo.step (fun uK kK => XS.icmpNo X64.here hx rfl (hb hby at_189) rfl (teq hc189).2 kK) ?_
      show OGo p e below _ (T64.setTop (mkF m 192 #[.val (.long q1), .second, .val (.long q2), .second, .val (.long uu), .second, .val (.int p3), .val (.long s0), .second, .val (.long s1), .second, .val (.int (3 : Int32)), .val (.ref b2), .val (.int (1 : Int32)), .unset, .unset, .unset, .unset] []))
      refine OGo.step (fun uK kK => XS.lload X64.here hx rfl (hb hby at_192) rfl kK) ?_
      show OGo p e below _ (T64.setTop (mkF m 194 #[.val (.long q1), .second, .val (.long q2), .second, .val (.long uu), .second, .val (.int p3), .val (.long s0), .second, .val (.long s1), .second, .val (.int (3 : Int32)), .val (.ref b2), .val (.int (1 : Int32)), .unset, .unset, .unset, .unset] [(.long s1)]))
      refine OGo.step (fun uK kK => XS.goto X64.here hx rfl (pc0 := 194) (pc' := 199) rfl (hb hby at_194) (by decide) (by decide) kK) ?_
      show OGo p e below _ (T64.setTop (mkF m 199 #[.val (.long q1), .second, .val (.long q2), .second, .val (.long uu), .second, .val (.int p3), .val (.long s0), .second, .val (.long s1), .second, .val (.int (3 : Int32)), .val (.ref b2), .val (.int (1 : Int32)), .unset, .unset, .unset, .unset] [(.long s1)]))
      refine OGo.step (fun uK kK => XS.lstore X64.here hx rfl (hb hby at_199) rfl (l' := #[.val (.long q1), .second, .val (.long q2), .second, .val (.long uu), .second, .val (.int p3), .val (.long s0), .second, .val (.long s1), .second, .val (.int (3 : Int32)), .val (.ref b2), .val (.int (1 : Int32)), .val (.long s1), .second, .unset, .unset]) rfl kK) ?_
      refine OGo.step (fun uK kK => XS.iload X64.here hx rfl (hb hby at_201) rfl kK) ?_
      show OGo p e below _ (T64.setTop (mkF m 203 #[.val (.long q1), .second, .val (.long q2), .second, .val (.long uu), .second, .val (.int p3), .val (.long s0), .second, .val (.long s1), .second, .val (.int (3 : Int32)), .val (.ref b2), .val (.int (1 : Int32)), .val (.long s1), .second, .unset, .unset] [(.int (1 : Int32))]))
      have hc203 : ¬ ((1 : Int32) = (0 : Int32)) := by decide
      refine OGo.step (fun uK kK => XS.ifYes X64.here hx rfl (pc0 := 203) (pc' := 214) rfl (hb hby at_203) rfl ((if0 _ _).trans (feq hc203).2) (by decide) (by decide) kK) ?_
      show OGo p e below _ (T64.setTop (mkF m 214 #[.val (.long q1), .second, .val (.long q2), .second, .val (.long uu), .second, .val (.int p3), .val (.long s0), .second, .val (.long s1), .second, .val (.int (3 : Int32)), .val (.ref b2), .val (.int (1 : Int32)), .val (.long s1), .second, .unset, .unset] []))
      refine OGo.step (fun uK kK => XS.lload X64.here hx rfl (hb hby at_214) rfl kK) ?_
      refine OGo.step (fun uK kK => XS.lload X64.here hx rfl (hb hby at_216) rfl kK) ?_
      show OGo p e below _ (T64.setTop (mkF m 218 #[.val (.long q1), .second, .val (.long q2), .second, .val (.long uu), .second, .val (.int p3), .val (.long s0), .second, .val (.long s1), .second, .val (.int (3 : Int32)), .val (.ref b2), .val (.int (1 : Int32)), .val (.long s1), .second, .unset, .unset] [(.long uu), (.long s1)]))
      refine OGo.step (fun uK kK => XS.lcmp X64.here hx rfl (hb hby at_218) rfl kK) ?_
      show OGo p e below _ (T64.setTop (mkF m 219 #[.val (.long q1), .second, .val (.long q2), .second, .val (.long uu), .second, .val (.int p3), .val (.long s0), .second, .val (.long s1), .second, .val (.int (3 : Int32)), .val (.ref b2), .val (.int (1 : Int32)), .val (.long s1), .second, .unset, .unset] [(.int (lcmpW s1 uu))]))
      refine OGo.step (t' := T64.setTop (mkF m 234 #[.val (.long q1), .second, .val (.long q2), .second, .val (.long uu), .second, .val (.int p3), .val (.long s0), .second, .val (.long s1), .second, .val (.int (3 : Int32)), .val (.ref b2), .val (.int (1 : Int32)), .val (.long s1), .second, .val (.long (if s1 < uu then s1 else (-1 : Int64))), .second] [])) (fun uK kK => ?_) ?_
      · show Steps p.tables e below (T64.setTop (mkF m 219 #[.val (.long q1), .second, .val (.long q2), .second, .val (.long uu), .second, .val (.int p3), .val (.long s0), .second, .val (.long s1), .second, .val (.int (3 : Int32)), .val (.ref b2), .val (.int (1 : Int32)), .val (.long s1), .second, .unset, .unset] [(.int (lcmpW s1 uu))])) _
        by_cases hm219_71 : s1 < uu
        · try rw [if_pos hm219_71] at kK
          refine XS.ifNo X64.here hx rfl (hb hby at_219) rfl ((if0 _ _).trans (tlt ((lw_lt _ _).mpr hm219_71)).2.1) ?_
          refine XS.lload X64.here hx rfl (hb hby at_222) rfl ?_
          show Steps p.tables e below (T64.setTop (mkF m 224 #[.val (.long q1), .second, .val (.long q2), .second, .val (.long uu), .second, .val (.int p3), .val (.long s0), .second, .val (.long s1), .second, .val (.int (3 : Int32)), .val (.ref b2), .val (.int (1 : Int32)), .val (.long s1), .second, .unset, .unset] [(.long s1)])) _
          refine XS.lstore X64.here hx rfl (hb hby at_224) rfl (l' := #[.val (.long q1), .second, .val (.long q2), .second, .val (.long uu), .second, .val (.int p3), .val (.long s0), .second, .val (.long s1), .second, .val (.int (3 : Int32)), .val (.ref b2), .val (.int (1 : Int32)), .val (.long s1), .second, .val (.long s1), .second]) rfl ?_
          show Steps p.tables e below (T64.setTop (mkF m 226 #[.val (.long q1), .second, .val (.long q2), .second, .val (.long uu), .second, .val (.int p3), .val (.long s0), .second, .val (.long s1), .second, .val (.int (3 : Int32)), .val (.ref b2), .val (.int (1 : Int32)), .val (.long s1), .second, .val (.long s1), .second] [])) _
          refine XS.goto X64.here hx rfl (pc0 := 226) (pc' := 234) rfl (hb hby at_226) (by decide) (by decide) ?_
          show Steps p.tables e below (T64.setTop (mkF m 234 #[.val (.long q1), .second, .val (.long q2), .second, .val (.long uu), .second, .val (.int p3), .val (.long s0), .second, .val (.long s1), .second, .val (.int (3 : Int32)), .val (.ref b2), .val (.int (1 : Int32)), .val (.long s1), .second, .val (.long s1), .second] [])) _
          exact kK
        · try rw [if_neg hm219_71] at kK
          refine XS.ifYes X64.here hx rfl (pc0 := 219) (pc' := 229) rfl (hb hby at_219) rfl ((if0 _ _).trans (flt (fun q => hm219_71 ((lw_lt _ _).mp q))).2.1) (by decide) (by decide) ?_
          refine X64.ldc2J hx hown (mvT hZ (hw _ (List.mem_of_getElem? (i := 45) rfl))) rfl (hb hby at_229) ?_
          show Steps p.tables e below (T64.setTop (mkF m 232 #[.val (.long q1), .second, .val (.long q2), .second, .val (.long uu), .second, .val (.int p3), .val (.long s0), .second, .val (.long s1), .second, .val (.int (3 : Int32)), .val (.ref b2), .val (.int (1 : Int32)), .val (.long s1), .second, .unset, .unset] [(.long (-1 : Int64))])) _
          refine XS.lstore X64.here hx rfl (hb hby at_232) rfl (l' := #[.val (.long q1), .second, .val (.long q2), .second, .val (.long uu), .second, .val (.int p3), .val (.long s0), .second, .val (.long s1), .second, .val (.int (3 : Int32)), .val (.ref b2), .val (.int (1 : Int32)), .val (.long s1), .second, .val (.long (-1 : Int64)), .second]) rfl ?_
          show Steps p.tables e below (T64.setTop (mkF m 234 #[.val (.long q1), .second, .val (.long q2), .second, .val (.long uu), .second, .val (.int p3), .val (.long s0), .second, .val (.long s1), .second, .val (.int (3 : Int32)), .val (.ref b2), .val (.int (1 : Int32)), .val (.long s1), .second, .val (.long (-1 : Int64)), .second] [])) _
          exact kK
      show OGo p e below _ (T64.setTop (mkF m 234 #[.val (.long q1), .second, .val (.long q2), .second, .val (.long uu), .second, .val (.int p3), .val (.long s0), .second, .val (.long s1), .second, .val (.int (3 : Int32)), .val (.ref b2), .val (.int (1 : Int32)), .val (.long s1), .second, .val (.long (if s1 < uu then s1 else (-1 : Int64))), .second] []))
      refine OGo.step (fun uK kK => XS.aload X64.here hx rfl (hb hby at_234) rfl rfl kK) ?_
      refine OGo.step (fun uK kK => XS.lload X64.here hx rfl (hb hby at_236) rfl kK) ?_
      show OGo p e below _ (T64.setTop (mkF m 238 #[.val (.long q1), .second, .val (.long q2), .second, .val (.long uu), .second, .val (.int p3), .val (.long s0), .second, .val (.long s1), .second, .val (.int (3 : Int32)), .val (.ref b2), .val (.int (1 : Int32)), .val (.long s1), .second, .val (.long (if s1 < uu then s1 else (-1 : Int64))), .second] [(.long uu), (.ref b2)]))
      obtain ⟨cq72, kq72, q72a, q72b, q72c⟩ := isOf hZ rfl A2_65
      obtain ⟨_, _, ⟨T72, Lq72, kq_72, nq_72⟩, -, X72, ⟨Lc72, hQ72, lq72, yq72, zq72⟩, st72⟩ := X64.virtualBack hx (y := (⟨"com/example/graph_of_conflicts/graphofconflicts/engine/OpenSnapshots", "earliestBefore", "(J)J"⟩ : MethodName)) (z := (⟨"com/example/graph_of_conflicts/graphofconflicts/engine/OpenSnapshots", "earliestBefore", "(J)J"⟩ : MethodName)) hown (mvT hZ (hw _ (List.mem_of_getElem? (i := 46) rfl))) (mvT hZ (hw _ (List.mem_of_getElem? (i := 47) rfl))) (notFace_of_selects (args := #[]) (mvT hZ (hw _ (List.mem_of_getElem? (i := 49) rfl)))) (mvT hZ (hw _ (List.mem_of_getElem? (i := 49) rfl))) (mvT hZ (hw _ (List.mem_of_getElem? (i := 48) rfl))) (by decide) (backOf (W := 0) (rme1 l Z a0 hw [] b2 uu aS kS s1 s1 (0 : Int64) (0 : Int64) (0 : Int64) (0 : Int64) (0 : Int64) (0 : Int64) T64.heap n0 ZS64 Fs64 Fn64 Vs64) hZ (hw _ (List.mem_of_getElem? (i := 50) rfl)) (hw _ (List.mem_of_getElem? (i := 7) rfl)) (by decide) (by decide)) q72a q72c (g := (mkF m 238 #[.val (.long q1), .second, .val (.long q2), .second, .val (.long uu), .second, .val (.int p3), .val (.long s0), .second, .val (.long s1), .second, .val (.int (3 : Int32)), .val (.ref b2), .val (.int (1 : Int32)), .val (.long s1), .second, .val (.long (if s1 < uu then s1 else (-1 : Int64))), .second] [(.long uu), (.ref b2)])) rfl (by rw [hml]; rfl) (Steps.refl _) (argsL := [(.long uu)]) (rest := []) (lenOf pd0_2 rfl) rfl (by show 2 * 0 + _ ≤ _; exact Nat.le_of_eq rfl) (hb hby at_238) (fun _ _ => ⟨rfl, rfl, (by decide : 3 + 0 ≤ _), (by decide : 19 + 0 ≤ _)⟩)
      dsimp only [Pt.U, Pt.locs, Pt.cells, Pt.slots] at X72 lq72 yq72 zq72 st72 hQ72
      subst lq72 yq72 zq72
      obtain ⟨rfl, Nq72, e72⟩ := hQ72
      have N72 := Fr.app N64 Nq72
      refine OGo.steps st72 ?_
      show OGo p e below _ (T72.setTop (mkF m 241 #[.val (.long q1), .second, .val (.long q2), .second, .val (.long uu), .second, .val (.int p3), .val (.long s0), .second, .val (.long s1), .second, .val (.int (3 : Int32)), .val (.ref b2), .val (.int (1 : Int32)), .val (.long s1), .second, .val (.long (if s1 < uu then s1 else (-1 : Int64))), .second] [(.long (if s1 < uu then s1 else (-1 : Int64)))]))
      refine OGo.step (fun uK kK => XS.lload X72.here hx rfl (hb hby at_241) rfl kK) ?_
      show OGo p e below _ (T72.setTop (mkF m 243 #[.val (.long q1), .second, .val (.long q2), .second, .val (.long uu), .second, .val (.int p3), .val (.long s0), .second, .val (.long s1), .second, .val (.int (3 : Int32)), .val (.ref b2), .val (.int (1 : Int32)), .val (.long s1), .second, .val (.long (if s1 < uu then s1 else (-1 : Int64))), .second] [(.long (if s1 < uu then s1 else (-1 : Int64))), (.long (if s1 < uu then s1 else (-1 : Int64)))]))
      refine OGo.step (fun uK kK => XS.lcmp X72.here hx rfl (hb hby at_243) rfl kK) ?_
      show OGo p e below _ (T72.setTop (mkF m 244 #[.val (.long q1), .second, .val (.long q2), .second, .val (.long uu), .second, .val (.int p3), .val (.long s0), .second, .val (.long s1), .second, .val (.int (3 : Int32)), .val (.ref b2), .val (.int (1 : Int32)), .val (.long s1), .second, .val (.long (if s1 < uu then s1 else (-1 : Int64))), .second] [(.int (lcmpW (if s1 < uu then s1 else (-1 : Int64)) (if s1 < uu then s1 else (-1 : Int64))))]))
      have hc244 : (if s1 < uu then s1 else (-1 : Int64)) = (if s1 < uu then s1 else (-1 : Int64)) := rfl
      refine OGo.step (fun uK kK => XS.ifNo X72.here hx rfl (hb hby at_244) rfl ((if0 _ _).trans (teq ((lw_eq _ _).mpr hc244)).2) kK) ?_
      show OGo p e below _ (T72.setTop (mkF m 247 #[.val (.long q1), .second, .val (.long q2), .second, .val (.long uu), .second, .val (.int p3), .val (.long s0), .second, .val (.long s1), .second, .val (.int (3 : Int32)), .val (.ref b2), .val (.int (1 : Int32)), .val (.long s1), .second, .val (.long (if s1 < uu then s1 else (-1 : Int64))), .second] []))
      refine OGo.step (fun uK kK => XS.iconst X72.here hx rfl (hb hby at_247) kK) ?_
      show OGo p e below _ (T72.setTop (mkF m 248 #[.val (.long q1), .second, .val (.long q2), .second, .val (.long uu), .second, .val (.int p3), .val (.long s0), .second, .val (.long s1), .second, .val (.int (3 : Int32)), .val (.ref b2), .val (.int (1 : Int32)), .val (.long s1), .second, .val (.long (if s1 < uu then s1 else (-1 : Int64))), .second] [(.int (1 : Int32))]))
      refine OGo.step (fun uK kK => XS.goto X72.here hx rfl (pc0 := 248) (pc' := 252) rfl (hb hby at_248) (by decide) (by decide) kK) ?_
      show OGo p e below _ (T72.setTop (mkF m 252 #[.val (.long q1), .second, .val (.long q2), .second, .val (.long uu), .second, .val (.int p3), .val (.long s0), .second, .val (.long s1), .second, .val (.int (3 : Int32)), .val (.ref b2), .val (.int (1 : Int32)), .val (.long s1), .second, .val (.long (if s1 < uu then s1 else (-1 : Int64))), .second] [(.int (1 : Int32))]))
      exact OGo.retN X72 hx Bd.notSynchronized (t := .boolean) Bd.returns (by simp) (hb hby at_252) (by decide) (by decide) (by show Q0 Z q1 q2 uu p3 h0 n0 _ T72.heap _; rw [e72]; exact ⟨rfl, N72⟩)
    · skip
      replace heq := heq.symm
      subst heq
      show OGo p e below _ (T3.setTop (mkF m 35 #[.val (.long q1), .second, .val (.long q2), .second, .val (.long uu), .second, .val (.int p3), .val (.long s0), .second, .val (.long s0), .second, .val (.int (3 : Int32)), .val (.ref b2), .unset, .unset, .unset, .unset, .unset] []))
      refine OGo.step (fun uK kK => XS.iload X3.here hx rfl (hb hby at_35) rfl kK) ?_
      show OGo p e below _ (T3.setTop (mkF m 37 #[.val (.long q1), .second, .val (.long q2), .second, .val (.long uu), .second, .val (.int p3), .val (.long s0), .second, .val (.long s0), .second, .val (.int (3 : Int32)), .val (.ref b2), .unset, .unset, .unset, .unset, .unset] [(.int (3 : Int32))]))
      have hc37 : ¬ ((3 : Int32) = (0 : Int32)) := by decide
      refine OGo.step (fun uK kK => XS.ifNo X3.here hx rfl (hb hby at_37) rfl ((if0 _ _).trans (feq hc37).1) kK) ?_
      show OGo p e below _ (T3.setTop (mkF m 40 #[.val (.long q1), .second, .val (.long q2), .second, .val (.long uu), .second, .val (.int p3), .val (.long s0), .second, .val (.long s0), .second, .val (.int (3 : Int32)), .val (.ref b2), .unset, .unset, .unset, .unset, .unset] []))
      refine OGo.step (fun uK kK => XS.aload X3.here hx rfl (hb hby at_40) rfl rfl kK) ?_
      refine OGo.step (fun uK kK => XS.lload X3.here hx rfl (hb hby at_42) rfl kK) ?_
      show OGo p e below _ (T3.setTop (mkF m 44 #[.val (.long q1), .second, .val (.long q2), .second, .val (.long uu), .second, .val (.int p3), .val (.long s0), .second, .val (.long s0), .second, .val (.int (3 : Int32)), .val (.ref b2), .unset, .unset, .unset, .unset, .unset] [(.long s0), (.ref b2)]))
      obtain ⟨cq73, kq73, q73a, q73b, q73c⟩ := isOf hZ rfl A2_4
      obtain ⟨_, _, ⟨T73, Lq73, kq_73, nq_73⟩, -, X73, ⟨Lc73, hQ73, lq73, yq73, zq73⟩, st73⟩ := X3.virtualBack hx (y := (⟨"com/example/graph_of_conflicts/graphofconflicts/engine/OpenSnapshots", "add", "(J)V"⟩ : MethodName)) (z := (⟨"com/example/graph_of_conflicts/graphofconflicts/engine/OpenSnapshots", "add", "(J)V"⟩ : MethodName)) hown (mvT hZ (hw _ (List.mem_of_getElem? (i := 20) rfl))) (mvT hZ (hw _ (List.mem_of_getElem? (i := 21) rfl))) (notFace_of_selects (args := #[]) (mvT hZ (hw _ (List.mem_of_getElem? (i := 23) rfl)))) (mvT hZ (hw _ (List.mem_of_getElem? (i := 23) rfl))) (mvT hZ (hw _ (List.mem_of_getElem? (i := 22) rfl))) (by decide) (backOf (W := 0) (rma0 l Z a0 hw [] b2 aS kS (0 : Int64) (0 : Int64) (0 : Int64) (0 : Int64) (0 : Int64) (0 : Int64) (0 : Int64) (0 : Int64) aH kH (0 : Int32) (0 : Int32) (0 : Int32) (0 : Int32) (0 : Int32) (0 : Int32) (0 : Int32) (0 : Int32) s0 T3.heap n0 ZS3 Fs3 Fh3 Fn3 Vs3 Vh3 A2_4 gn_b2 gS gH ne_b2_aS ne_b2_aH neSH) hZ (hw _ (List.mem_of_getElem? (i := 24) rfl)) (hw _ (List.mem_of_getElem? (i := 7) rfl)) (by decide) (by decide)) q73a q73c (g := (mkF m 44 #[.val (.long q1), .second, .val (.long q2), .second, .val (.long uu), .second, .val (.int p3), .val (.long s0), .second, .val (.long s0), .second, .val (.int (3 : Int32)), .val (.ref b2), .unset, .unset, .unset, .unset, .unset] [(.long s0), (.ref b2)])) rfl (by rw [hml]; rfl) (Steps.refl _) (argsL := [(.long s0)]) (rest := []) (lenOf pd0_3 rfl) rfl (by show 2 * 0 + _ ≤ _; exact Nat.le_of_eq rfl) (hb hby at_44) (fun _ _ => ⟨rfl, rfl, (by decide : 3 + 0 ≤ _), (by decide : 19 + 0 ≤ _)⟩)
      dsimp only [Pt.U, Pt.locs, Pt.cells, Pt.slots] at X73 lq73 yq73 zq73 st73 hQ73
      subst lq73 yq73 zq73
      obtain ⟨rfl, Nq73, K73, Fs73, Fh73, Fn73, Vs73, Vh73⟩ := hQ73
      have A2_74 := (A2_4.keep K73)
      have ZS73 : n0 ≤ T73.heap.size := Nat.le_trans ZS3 K73.1
      have KC73 : Keep h0 T73.heap [] := KC3.trans K73 (allS (Or.inr sz_b2) (allS (Or.inr sz_aS) (allS (Or.inr sz_aH) all0)))
      have N73 := Fr.app N3 Nq73
      refine OGo.steps st73 ?_
      show OGo p e below _ (T73.setTop (mkF m 47 #[.val (.long q1), .second, .val (.long q2), .second, .val (.long uu), .second, .val (.int p3), .val (.long s0), .second, .val (.long s0), .second, .val (.int (3 : Int32)), .val (.ref b2), .unset, .unset, .unset, .unset, .unset] []))
      refine OGo.step (fun uK kK => XS.iload X73.here hx rfl (hb hby at_47) rfl kK) ?_
      refine OGo.step (fun uK kK => XS.iconst X73.here hx rfl (hb hby at_49) kK) ?_
      show OGo p e below _ (T73.setTop (mkF m 50 #[.val (.long q1), .second, .val (.long q2), .second, .val (.long uu), .second, .val (.int p3), .val (.long s0), .second, .val (.long s0), .second, .val (.int (3 : Int32)), .val (.ref b2), .unset, .unset, .unset, .unset, .unset] [(.int (2 : Int32)), (.int (3 : Int32))]))
      have hc50 : ¬ ((3 : Int32) = (2 : Int32)) := by decide
      refine OGo.step (fun uK kK => XS.icmpNo X73.here hx rfl (hb hby at_50) rfl (feq hc50).1 kK) ?_
      show OGo p e below _ (T73.setTop (mkF m 53 #[.val (.long q1), .second, .val (.long q2), .second, .val (.long uu), .second, .val (.int p3), .val (.long s0), .second, .val (.long s0), .second, .val (.int (3 : Int32)), .val (.ref b2), .unset, .unset, .unset, .unset, .unset] []))
      refine OGo.step (fun uK kK => XS.iload X73.here hx rfl (hb hby at_53) rfl kK) ?_
      refine OGo.step (fun uK kK => XS.iconst X73.here hx rfl (hb hby at_55) kK) ?_
      show OGo p e below _ (T73.setTop (mkF m 56 #[.val (.long q1), .second, .val (.long q2), .second, .val (.long uu), .second, .val (.int p3), .val (.long s0), .second, .val (.long s0), .second, .val (.int (3 : Int32)), .val (.ref b2), .unset, .unset, .unset, .unset, .unset] [(.int (3 : Int32)), (.int (3 : Int32))]))
      have hc56 : (3 : Int32) = (3 : Int32) := by decide
      refine OGo.step (fun uK kK => XS.icmpYes X73.here hx rfl (pc0 := 56) (pc' := 72) rfl (hb hby at_56) rfl (teq hc56).1 (by decide) (by decide) kK) ?_
      show OGo p e below _ (T73.setTop (mkF m 72 #[.val (.long q1), .second, .val (.long q2), .second, .val (.long uu), .second, .val (.int p3), .val (.long s0), .second, .val (.long s0), .second, .val (.int (3 : Int32)), .val (.ref b2), .unset, .unset, .unset, .unset, .unset] []))
      refine OGo.step (fun uK kK => XS.aload X73.here hx rfl (hb hby at_72) rfl rfl kK) ?_
      refine OGo.step (fun uK kK => XS.lload X73.here hx rfl (hb hby at_74) rfl kK) ?_
      show OGo p e below _ (T73.setTop (mkF m 76 #[.val (.long q1), .second, .val (.long q2), .second, .val (.long uu), .second, .val (.int p3), .val (.long s0), .second, .val (.long s0), .second, .val (.int (3 : Int32)), .val (.ref b2), .unset, .unset, .unset, .unset, .unset] [(.long s0), (.ref b2)]))
      obtain ⟨cq80, kq80, q80a, q80b, q80c⟩ := isOf hZ rfl A2_74
      obtain ⟨_, _, ⟨T80, Lq80, kq_80, nq_80⟩, -, X80, ⟨Lc80, hQ80, lq80, yq80, zq80⟩, st80⟩ := X73.virtualBack hx (y := (⟨"com/example/graph_of_conflicts/graphofconflicts/engine/OpenSnapshots", "add", "(J)V"⟩ : MethodName)) (z := (⟨"com/example/graph_of_conflicts/graphofconflicts/engine/OpenSnapshots", "add", "(J)V"⟩ : MethodName)) hown (mvT hZ (hw _ (List.mem_of_getElem? (i := 20) rfl))) (mvT hZ (hw _ (List.mem_of_getElem? (i := 21) rfl))) (notFace_of_selects (args := #[]) (mvT hZ (hw _ (List.mem_of_getElem? (i := 23) rfl)))) (mvT hZ (hw _ (List.mem_of_getElem? (i := 23) rfl))) (mvT hZ (hw _ (List.mem_of_getElem? (i := 22) rfl))) (by decide) (backOf (W := 0) (rmae l Z a0 hw [] b2 aS kS s0 (0 : Int64) (0 : Int64) (0 : Int64) (0 : Int64) (0 : Int64) (0 : Int64) (0 : Int64) aH kH (1 : Int32) (0 : Int32) (0 : Int32) (0 : Int32) (0 : Int32) (0 : Int32) (0 : Int32) (0 : Int32) T73.heap n0 ZS73 Fs73 Fh73 Fn73 Vs73 Vh73 A2_74 gn_b2 gS gH ne_b2_aS ne_b2_aH neSH) hZ (hw _ (List.mem_of_getElem? (i := 24) rfl)) (hw _ (List.mem_of_getElem? (i := 7) rfl)) (by decide) (by decide)) q80a q80c (g := (mkF m 76 #[.val (.long q1), .second, .val (.long q2), .second, .val (.long uu), .second, .val (.int p3), .val (.long s0), .second, .val (.long s0), .second, .val (.int (3 : Int32)), .val (.ref b2), .unset, .unset, .unset, .unset, .unset] [(.long s0), (.ref b2)])) rfl (by rw [hml]; rfl) (Steps.refl _) (argsL := [(.long s0)]) (rest := []) (lenOf pd0_3 rfl) rfl (by show 2 * 0 + _ ≤ _; exact Nat.le_of_eq rfl) (hb hby at_76) (fun _ _ => ⟨rfl, rfl, (by decide : 3 + 0 ≤ _), (by decide : 19 + 0 ≤ _)⟩)
      dsimp only [Pt.U, Pt.locs, Pt.cells, Pt.slots] at X80 lq80 yq80 zq80 st80 hQ80
      subst lq80 yq80 zq80
      obtain ⟨rfl, Nq80, K80, Fs80, Fh80, Fn80, Vs80, Vh80⟩ := hQ80
      have A2_81 := (A2_74.keep K80)
      have ZS80 : n0 ≤ T80.heap.size := Nat.le_trans ZS73 K80.1
      have KC80 : Keep h0 T80.heap [] := KC73.trans K80 (allS (Or.inr sz_b2) (allS (Or.inr sz_aS) (allS (Or.inr sz_aH) all0)))
      have N80 := Fr.app N73 Nq80
      refine OGo.steps st80 ?_
      show OGo p e below _ (T80.setTop (mkF m 79 #[.val (.long q1), .second, .val (.long q2), .second, .val (.long uu), .second, .val (.int p3), .val (.long s0), .second, .val (.long s0), .second, .val (.int (3 : Int32)), .val (.ref b2), .unset, .unset, .unset, .unset, .unset] []))
      refine OGo.step (fun uK kK => XS.iload X80.here hx rfl (hb hby at_79) rfl kK) ?_
      refine OGo.step (fun uK kK => XS.bipush X80.here hx rfl (hb hby at_81) kK) ?_
      show OGo p e below _ (T80.setTop (mkF m 83 #[.val (.long q1), .second, .val (.long q2), .second, .val (.long uu), .second, .val (.int p3), .val (.long s0), .second, .val (.long s0), .second, .val (.int (3 : Int32)), .val (.ref b2), .unset, .unset, .unset, .unset, .unset] [(.int (6 : Int32)), (.int (3 : Int32))]))
      have hc83 : ¬ ((3 : Int32) = (6 : Int32)) := by decide
      refine OGo.step (fun uK kK => XS.icmpYes X80.here hx rfl (pc0 := 83) (pc' := 93) rfl (hb hby at_83) rfl (feq hc83).2 (by decide) (by decide) kK) ?_
      show OGo p e below _ (T80.setTop (mkF m 93 #[.val (.long q1), .second, .val (.long q2), .second, .val (.long uu), .second, .val (.int p3), .val (.long s0), .second, .val (.long s0), .second, .val (.int (3 : Int32)), .val (.ref b2), .unset, .unset, .unset, .unset, .unset] []))
      refine OGo.step (fun uK kK => XS.iload X80.here hx rfl (hb hby at_93) rfl kK) ?_
      refine OGo.step (fun uK kK => XS.iconst X80.here hx rfl (hb hby at_95) kK) ?_
      show OGo p e below _ (T80.setTop (mkF m 96 #[.val (.long q1), .second, .val (.long q2), .second, .val (.long uu), .second, .val (.int p3), .val (.long s0), .second, .val (.long s0), .second, .val (.int (3 : Int32)), .val (.ref b2), .unset, .unset, .unset, .unset, .unset] [(.int (3 : Int32)), (.int (3 : Int32))]))
      have hc96 : (3 : Int32) = (3 : Int32) := by decide
      refine OGo.step (fun uK kK => XS.icmpYes X80.here hx rfl (pc0 := 96) (pc' := 119) rfl (hb hby at_96) rfl (teq hc96).1 (by decide) (by decide) kK) ?_
      show OGo p e below _ (T80.setTop (mkF m 119 #[.val (.long q1), .second, .val (.long q2), .second, .val (.long uu), .second, .val (.int p3), .val (.long s0), .second, .val (.long s0), .second, .val (.int (3 : Int32)), .val (.ref b2), .unset, .unset, .unset, .unset, .unset] []))
      refine OGo.step (fun uK kK => XS.aload X80.here hx rfl (hb hby at_119) rfl rfl kK) ?_
      refine OGo.step (fun uK kK => XS.lload X80.here hx rfl (hb hby at_121) rfl kK) ?_
      show OGo p e below _ (T80.setTop (mkF m 123 #[.val (.long q1), .second, .val (.long q2), .second, .val (.long uu), .second, .val (.int p3), .val (.long s0), .second, .val (.long s0), .second, .val (.int (3 : Int32)), .val (.ref b2), .unset, .unset, .unset, .unset, .unset] [(.long s0), (.ref b2)]))
      obtain ⟨cq87, kq87, q87a, q87b, q87c⟩ := isOf hZ rfl A2_81
      obtain ⟨_, _, ⟨T87, Lq87, kq_87, nq_87⟩, -, X87, ⟨Lc87, hQ87, lq87, yq87, zq87⟩, st87⟩ := X80.virtualBack hx (y := (⟨"com/example/graph_of_conflicts/graphofconflicts/engine/OpenSnapshots", "remove", "(J)Z"⟩ : MethodName)) (z := (⟨"com/example/graph_of_conflicts/graphofconflicts/engine/OpenSnapshots", "remove", "(J)Z"⟩ : MethodName)) hown (mvT hZ (hw _ (List.mem_of_getElem? (i := 52) rfl))) (mvT hZ (hw _ (List.mem_of_getElem? (i := 53) rfl))) (notFace_of_selects (args := #[]) (mvT hZ (hw _ (List.mem_of_getElem? (i := 55) rfl)))) (mvT hZ (hw _ (List.mem_of_getElem? (i := 55) rfl))) (mvT hZ (hw _ (List.mem_of_getElem? (i := 54) rfl))) (by decide) (backOf (W := 0) (rmr2 l Z a0 hw [] b2 aS kS s0 (0 : Int64) (0 : Int64) (0 : Int64) (0 : Int64) (0 : Int64) (0 : Int64) (0 : Int64) aH kH (2 : Int32) (0 : Int32) (0 : Int32) (0 : Int32) (0 : Int32) (0 : Int32) (0 : Int32) (0 : Int32) T80.heap n0 ZS80 Fs80 Fh80 Fn80 Vs80 Vh80 A2_81 gn_b2 gS gH ne_b2_aS ne_b2_aH neSH) hZ (hw _ (List.mem_of_getElem? (i := 56) rfl)) (hw _ (List.mem_of_getElem? (i := 7) rfl)) (by decide) (by decide)) q87a q87c (g := (mkF m 123 #[.val (.long q1), .second, .val (.long q2), .second, .val (.long uu), .second, .val (.int p3), .val (.long s0), .second, .val (.long s0), .second, .val (.int (3 : Int32)), .val (.ref b2), .unset, .unset, .unset, .unset, .unset] [(.long s0), (.ref b2)])) rfl (by rw [hml]; rfl) (Steps.refl _) (argsL := [(.long s0)]) (rest := []) (lenOf pd0_4 rfl) rfl (by show 2 * 0 + _ ≤ _; exact Nat.le_of_eq rfl) (hb hby at_123) (fun _ _ => ⟨rfl, rfl, (by decide : 3 + 0 ≤ _), (by decide : 19 + 0 ≤ _)⟩)
      dsimp only [Pt.U, Pt.locs, Pt.cells, Pt.slots] at X87 lq87 yq87 zq87 st87 hQ87
      subst lq87 yq87 zq87
      obtain ⟨rfl, Nq87, K87, Fs87, Fh87, Fn87, Vs87, Vh87⟩ := hQ87
      have A2_88 := (A2_81.keep K87)
      have ZS87 : n0 ≤ T87.heap.size := Nat.le_trans ZS80 K87.1
      have KC87 : Keep h0 T87.heap [] := KC80.trans K87 (allS (Or.inr sz_b2) (allS (Or.inr sz_aS) (allS (Or.inr sz_aH) all0)))
      have N87 := Fr.app N80 Nq87
      refine OGo.steps st87 ?_
      show OGo p e below _ (T87.setTop (mkF m 126 #[.val (.long q1), .second, .val (.long q2), .second, .val (.long uu), .second, .val (.int p3), .val (.long s0), .second, .val (.long s0), .second, .val (.int (3 : Int32)), .val (.ref b2), .unset, .unset, .unset, .unset, .unset] [(.int (0 : Int32))]))
      refine OGo.step (fun uK kK => XS.pop X87.here hx rfl (hb hby at_126) rfl rfl kK) ?_
      refine OGo.step (fun uK kK => XS.iload X87.here hx rfl (hb hby at_127) rfl kK) ?_
      refine OGo.step (fun uK kK => XS.iconst X87.here hx rfl (hb hby at_129) kK) ?_
      show OGo p e below _ (T87.setTop (mkF m 130 #[.val (.long q1), .second, .val (.long q2), .second, .val (.long uu), .second, .val (.int p3), .val (.long s0), .second, .val (.long s0), .second, .val (.int (3 : Int32)), .val (.ref b2), .unset, .unset, .unset, .unset, .unset] [(.int (5 : Int32)), (.int (3 : Int32))]))
      have hc130 : ¬ ((3 : Int32) = (5 : Int32)) := by decide
      refine OGo.step (fun uK kK => XS.icmpNo X87.here hx rfl (hb hby at_130) rfl (feq hc130).1 kK) ?_
      show OGo p e below _ (T87.setTop (mkF m 133 #[.val (.long q1), .second, .val (.long q2), .second, .val (.long uu), .second, .val (.int p3), .val (.long s0), .second, .val (.long s0), .second, .val (.int (3 : Int32)), .val (.ref b2), .unset, .unset, .unset, .unset, .unset] []))
      refine OGo.step (fun uK kK => XS.iload X87.here hx rfl (hb hby at_133) rfl kK) ?_
      refine OGo.step (fun uK kK => XS.bipush X87.here hx rfl (hb hby at_135) kK) ?_
      show OGo p e below _ (T87.setTop (mkF m 137 #[.val (.long q1), .second, .val (.long q2), .second, .val (.long uu), .second, .val (.int p3), .val (.long s0), .second, .val (.long s0), .second, .val (.int (3 : Int32)), .val (.ref b2), .unset, .unset, .unset, .unset, .unset] [(.int (7 : Int32)), (.int (3 : Int32))]))
      have hc137 : ¬ ((3 : Int32) = (7 : Int32)) := by decide
      refine OGo.step (fun uK kK => XS.icmpYes X87.here hx rfl (pc0 := 137) (pc' := 148) rfl (hb hby at_137) rfl (feq hc137).2 (by decide) (by decide) kK) ?_
      show OGo p e below _ (T87.setTop (mkF m 148 #[.val (.long q1), .second, .val (.long q2), .second, .val (.long uu), .second, .val (.int p3), .val (.long s0), .second, .val (.long s0), .second, .val (.int (3 : Int32)), .val (.ref b2), .unset, .unset, .unset, .unset, .unset] []))
      refine OGo.step (fun uK kK => XS.iload X87.here hx rfl (hb hby at_148) rfl kK) ?_
      refine OGo.step (fun uK kK => XS.iconst X87.here hx rfl (hb hby at_150) kK) ?_
      show OGo p e below _ (T87.setTop (mkF m 151 #[.val (.long q1), .second, .val (.long q2), .second, .val (.long uu), .second, .val (.int p3), .val (.long s0), .second, .val (.long s0), .second, .val (.int (3 : Int32)), .val (.ref b2), .unset, .unset, .unset, .unset, .unset] [(.int (1 : Int32)), (.int (3 : Int32))]))
      have hc151 : ¬ ((3 : Int32) = (1 : Int32)) := by decide
      refine OGo.step (fun uK kK => XS.icmpNo X87.here hx rfl (hb hby at_151) rfl (feq hc151).1 kK) ?_
      show OGo p e below _ (T87.setTop (mkF m 154 #[.val (.long q1), .second, .val (.long q2), .second, .val (.long uu), .second, .val (.int p3), .val (.long s0), .second, .val (.long s0), .second, .val (.int (3 : Int32)), .val (.ref b2), .unset, .unset, .unset, .unset, .unset] []))
      refine OGo.step (fun uK kK => XS.iload X87.here hx rfl (hb hby at_154) rfl kK) ?_
      refine OGo.step (fun uK kK => XS.iconst X87.here hx rfl (hb hby at_156) kK) ?_
      show OGo p e below _ (T87.setTop (mkF m 157 #[.val (.long q1), .second, .val (.long q2), .second, .val (.long uu), .second, .val (.int p3), .val (.long s0), .second, .val (.long s0), .second, .val (.int (3 : Int32)), .val (.ref b2), .unset, .unset, .unset, .unset, .unset] [(.int (2 : Int32)), (.int (3 : Int32))]))
      have hc157 : ¬ ((3 : Int32) = (2 : Int32)) := by decide
      refine OGo.step (fun uK kK => XS.icmpNo X87.here hx rfl (hb hby at_157) rfl (feq hc157).1 kK) ?_
      show OGo p e below _ (T87.setTop (mkF m 160 #[.val (.long q1), .second, .val (.long q2), .second, .val (.long uu), .second, .val (.int p3), .val (.long s0), .second, .val (.long s0), .second, .val (.int (3 : Int32)), .val (.ref b2), .unset, .unset, .unset, .unset, .unset] []))
      refine OGo.step (fun uK kK => XS.iload X87.here hx rfl (hb hby at_160) rfl kK) ?_
      refine OGo.step (fun uK kK => XS.iconst X87.here hx rfl (hb hby at_162) kK) ?_
      show OGo p e below _ (T87.setTop (mkF m 163 #[.val (.long q1), .second, .val (.long q2), .second, .val (.long uu), .second, .val (.int p3), .val (.long s0), .second, .val (.long s0), .second, .val (.int (3 : Int32)), .val (.ref b2), .unset, .unset, .unset, .unset, .unset] [(.int (3 : Int32)), (.int (3 : Int32))]))
      have hc163 : (3 : Int32) = (3 : Int32) := by decide
      refine OGo.step (fun uK kK => XS.icmpYes X87.here hx rfl (pc0 := 163) (pc' := 179) rfl (hb hby at_163) rfl (teq hc163).1 (by decide) (by decide) kK) ?_
      show OGo p e below _ (T87.setTop (mkF m 179 #[.val (.long q1), .second, .val (.long q2), .second, .val (.long uu), .second, .val (.int p3), .val (.long s0), .second, .val (.long s0), .second, .val (.int (3 : Int32)), .val (.ref b2), .unset, .unset, .unset, .unset, .unset] []))
      refine OGo.step (fun uK kK => XS.iconst X87.here hx rfl (hb hby at_179) kK) ?_
      show OGo p e below _ (T87.setTop (mkF m 180 #[.val (.long q1), .second, .val (.long q2), .second, .val (.long uu), .second, .val (.int p3), .val (.long s0), .second, .val (.long s0), .second, .val (.int (3 : Int32)), .val (.ref b2), .unset, .unset, .unset, .unset, .unset] [(.int (1 : Int32))]))
      refine OGo.step (fun uK kK => XS.goto X87.here hx rfl (pc0 := 180) (pc' := 184) rfl (hb hby at_180) (by decide) (by decide) kK) ?_
      show OGo p e below _ (T87.setTop (mkF m 184 #[.val (.long q1), .second, .val (.long q2), .second, .val (.long uu), .second, .val (.int p3), .val (.long s0), .second, .val (.long s0), .second, .val (.int (3 : Int32)), .val (.ref b2), .unset, .unset, .unset, .unset, .unset] [(.int (1 : Int32))]))
      refine OGo.step (fun uK kK => XS.istore X87.here hx rfl (hb hby at_184) rfl (l' := #[.val (.long q1), .second, .val (.long q2), .second, .val (.long uu), .second, .val (.int p3), .val (.long s0), .second, .val (.long s0), .second, .val (.int (3 : Int32)), .val (.ref b2), .val (.int (1 : Int32)), .unset, .unset, .unset, .unset]) rfl kK) ?_
      refine OGo.step (fun uK kK => XS.iload X87.here hx rfl (hb hby at_186) rfl kK) ?_
      refine OGo.step (fun uK kK => XS.iconst X87.here hx rfl (hb hby at_188) kK) ?_
      show OGo p e below _ (T87.setTop (mkF m 189 #[.val (.long q1), .second, .val (.long q2), .second, .val (.long uu), .second, .val (.int p3), .val (.long s0), .second, .val (.long s0), .second, .val (.int (3 : Int32)), .val (.ref b2), .val (.int (1 : Int32)), .unset, .unset, .unset, .unset] [(.int (3 : Int32)), (.int (3 : Int32))]))
      have hc189 : (3 : Int32) = (3 : Int32) := by decide
      refine OGo.step (fun uK kK => XS.icmpNo X87.here hx rfl (hb hby at_189) rfl (teq hc189).2 kK) ?_
      show OGo p e below _ (T87.setTop (mkF m 192 #[.val (.long q1), .second, .val (.long q2), .second, .val (.long uu), .second, .val (.int p3), .val (.long s0), .second, .val (.long s0), .second, .val (.int (3 : Int32)), .val (.ref b2), .val (.int (1 : Int32)), .unset, .unset, .unset, .unset] []))
      refine OGo.step (fun uK kK => XS.lload X87.here hx rfl (hb hby at_192) rfl kK) ?_
      show OGo p e below _ (T87.setTop (mkF m 194 #[.val (.long q1), .second, .val (.long q2), .second, .val (.long uu), .second, .val (.int p3), .val (.long s0), .second, .val (.long s0), .second, .val (.int (3 : Int32)), .val (.ref b2), .val (.int (1 : Int32)), .unset, .unset, .unset, .unset] [(.long s0)]))
      refine OGo.step (fun uK kK => XS.goto X87.here hx rfl (pc0 := 194) (pc' := 199) rfl (hb hby at_194) (by decide) (by decide) kK) ?_
      show OGo p e below _ (T87.setTop (mkF m 199 #[.val (.long q1), .second, .val (.long q2), .second, .val (.long uu), .second, .val (.int p3), .val (.long s0), .second, .val (.long s0), .second, .val (.int (3 : Int32)), .val (.ref b2), .val (.int (1 : Int32)), .unset, .unset, .unset, .unset] [(.long s0)]))
      refine OGo.step (fun uK kK => XS.lstore X87.here hx rfl (hb hby at_199) rfl (l' := #[.val (.long q1), .second, .val (.long q2), .second, .val (.long uu), .second, .val (.int p3), .val (.long s0), .second, .val (.long s0), .second, .val (.int (3 : Int32)), .val (.ref b2), .val (.int (1 : Int32)), .val (.long s0), .second, .unset, .unset]) rfl kK) ?_
      refine OGo.step (fun uK kK => XS.iload X87.here hx rfl (hb hby at_201) rfl kK) ?_
      show OGo p e below _ (T87.setTop (mkF m 203 #[.val (.long q1), .second, .val (.long q2), .second, .val (.long uu), .second, .val (.int p3), .val (.long s0), .second, .val (.long s0), .second, .val (.int (3 : Int32)), .val (.ref b2), .val (.int (1 : Int32)), .val (.long s0), .second, .unset, .unset] [(.int (1 : Int32))]))
      have hc203 : ¬ ((1 : Int32) = (0 : Int32)) := by decide
      refine OGo.step (fun uK kK => XS.ifYes X87.here hx rfl (pc0 := 203) (pc' := 214) rfl (hb hby at_203) rfl ((if0 _ _).trans (feq hc203).2) (by decide) (by decide) kK) ?_
      show OGo p e below _ (T87.setTop (mkF m 214 #[.val (.long q1), .second, .val (.long q2), .second, .val (.long uu), .second, .val (.int p3), .val (.long s0), .second, .val (.long s0), .second, .val (.int (3 : Int32)), .val (.ref b2), .val (.int (1 : Int32)), .val (.long s0), .second, .unset, .unset] []))
      refine OGo.step (fun uK kK => XS.lload X87.here hx rfl (hb hby at_214) rfl kK) ?_
      refine OGo.step (fun uK kK => XS.lload X87.here hx rfl (hb hby at_216) rfl kK) ?_
      show OGo p e below _ (T87.setTop (mkF m 218 #[.val (.long q1), .second, .val (.long q2), .second, .val (.long uu), .second, .val (.int p3), .val (.long s0), .second, .val (.long s0), .second, .val (.int (3 : Int32)), .val (.ref b2), .val (.int (1 : Int32)), .val (.long s0), .second, .unset, .unset] [(.long uu), (.long s0)]))
      refine OGo.step (fun uK kK => XS.lcmp X87.here hx rfl (hb hby at_218) rfl kK) ?_
      show OGo p e below _ (T87.setTop (mkF m 219 #[.val (.long q1), .second, .val (.long q2), .second, .val (.long uu), .second, .val (.int p3), .val (.long s0), .second, .val (.long s0), .second, .val (.int (3 : Int32)), .val (.ref b2), .val (.int (1 : Int32)), .val (.long s0), .second, .unset, .unset] [(.int (lcmpW s0 uu))]))
      refine OGo.step (t' := T87.setTop (mkF m 234 #[.val (.long q1), .second, .val (.long q2), .second, .val (.long uu), .second, .val (.int p3), .val (.long s0), .second, .val (.long s0), .second, .val (.int (3 : Int32)), .val (.ref b2), .val (.int (1 : Int32)), .val (.long s0), .second, .val (.long (if s0 < uu then s0 else (-1 : Int64))), .second] [])) (fun uK kK => ?_) ?_
      · show Steps p.tables e below (T87.setTop (mkF m 219 #[.val (.long q1), .second, .val (.long q2), .second, .val (.long uu), .second, .val (.int p3), .val (.long s0), .second, .val (.long s0), .second, .val (.int (3 : Int32)), .val (.ref b2), .val (.int (1 : Int32)), .val (.long s0), .second, .unset, .unset] [(.int (lcmpW s0 uu))])) _
        by_cases hm219_94 : s0 < uu
        · try rw [if_pos hm219_94] at kK
          refine XS.ifNo X87.here hx rfl (hb hby at_219) rfl ((if0 _ _).trans (tlt ((lw_lt _ _).mpr hm219_94)).2.1) ?_
          refine XS.lload X87.here hx rfl (hb hby at_222) rfl ?_
          show Steps p.tables e below (T87.setTop (mkF m 224 #[.val (.long q1), .second, .val (.long q2), .second, .val (.long uu), .second, .val (.int p3), .val (.long s0), .second, .val (.long s0), .second, .val (.int (3 : Int32)), .val (.ref b2), .val (.int (1 : Int32)), .val (.long s0), .second, .unset, .unset] [(.long s0)])) _
          refine XS.lstore X87.here hx rfl (hb hby at_224) rfl (l' := #[.val (.long q1), .second, .val (.long q2), .second, .val (.long uu), .second, .val (.int p3), .val (.long s0), .second, .val (.long s0), .second, .val (.int (3 : Int32)), .val (.ref b2), .val (.int (1 : Int32)), .val (.long s0), .second, .val (.long s0), .second]) rfl ?_
          show Steps p.tables e below (T87.setTop (mkF m 226 #[.val (.long q1), .second, .val (.long q2), .second, .val (.long uu), .second, .val (.int p3), .val (.long s0), .second, .val (.long s0), .second, .val (.int (3 : Int32)), .val (.ref b2), .val (.int (1 : Int32)), .val (.long s0), .second, .val (.long s0), .second] [])) _
          refine XS.goto X87.here hx rfl (pc0 := 226) (pc' := 234) rfl (hb hby at_226) (by decide) (by decide) ?_
          show Steps p.tables e below (T87.setTop (mkF m 234 #[.val (.long q1), .second, .val (.long q2), .second, .val (.long uu), .second, .val (.int p3), .val (.long s0), .second, .val (.long s0), .second, .val (.int (3 : Int32)), .val (.ref b2), .val (.int (1 : Int32)), .val (.long s0), .second, .val (.long s0), .second] [])) _
          exact kK
        · try rw [if_neg hm219_94] at kK
          refine XS.ifYes X87.here hx rfl (pc0 := 219) (pc' := 229) rfl (hb hby at_219) rfl ((if0 _ _).trans (flt (fun q => hm219_94 ((lw_lt _ _).mp q))).2.1) (by decide) (by decide) ?_
          refine X87.ldc2J hx hown (mvT hZ (hw _ (List.mem_of_getElem? (i := 45) rfl))) rfl (hb hby at_229) ?_
          show Steps p.tables e below (T87.setTop (mkF m 232 #[.val (.long q1), .second, .val (.long q2), .second, .val (.long uu), .second, .val (.int p3), .val (.long s0), .second, .val (.long s0), .second, .val (.int (3 : Int32)), .val (.ref b2), .val (.int (1 : Int32)), .val (.long s0), .second, .unset, .unset] [(.long (-1 : Int64))])) _
          refine XS.lstore X87.here hx rfl (hb hby at_232) rfl (l' := #[.val (.long q1), .second, .val (.long q2), .second, .val (.long uu), .second, .val (.int p3), .val (.long s0), .second, .val (.long s0), .second, .val (.int (3 : Int32)), .val (.ref b2), .val (.int (1 : Int32)), .val (.long s0), .second, .val (.long (-1 : Int64)), .second]) rfl ?_
          show Steps p.tables e below (T87.setTop (mkF m 234 #[.val (.long q1), .second, .val (.long q2), .second, .val (.long uu), .second, .val (.int p3), .val (.long s0), .second, .val (.long s0), .second, .val (.int (3 : Int32)), .val (.ref b2), .val (.int (1 : Int32)), .val (.long s0), .second, .val (.long (-1 : Int64)), .second] [])) _
          exact kK
      show OGo p e below _ (T87.setTop (mkF m 234 #[.val (.long q1), .second, .val (.long q2), .second, .val (.long uu), .second, .val (.int p3), .val (.long s0), .second, .val (.long s0), .second, .val (.int (3 : Int32)), .val (.ref b2), .val (.int (1 : Int32)), .val (.long s0), .second, .val (.long (if s0 < uu then s0 else (-1 : Int64))), .second] []))
      refine OGo.step (fun uK kK => XS.aload X87.here hx rfl (hb hby at_234) rfl rfl kK) ?_
      refine OGo.step (fun uK kK => XS.lload X87.here hx rfl (hb hby at_236) rfl kK) ?_
      show OGo p e below _ (T87.setTop (mkF m 238 #[.val (.long q1), .second, .val (.long q2), .second, .val (.long uu), .second, .val (.int p3), .val (.long s0), .second, .val (.long s0), .second, .val (.int (3 : Int32)), .val (.ref b2), .val (.int (1 : Int32)), .val (.long s0), .second, .val (.long (if s0 < uu then s0 else (-1 : Int64))), .second] [(.long uu), (.ref b2)]))
      obtain ⟨cq95, kq95, q95a, q95b, q95c⟩ := isOf hZ rfl A2_88
      obtain ⟨_, _, ⟨T95, Lq95, kq_95, nq_95⟩, -, X95, ⟨Lc95, hQ95, lq95, yq95, zq95⟩, st95⟩ := X87.virtualBack hx (y := (⟨"com/example/graph_of_conflicts/graphofconflicts/engine/OpenSnapshots", "earliestBefore", "(J)J"⟩ : MethodName)) (z := (⟨"com/example/graph_of_conflicts/graphofconflicts/engine/OpenSnapshots", "earliestBefore", "(J)J"⟩ : MethodName)) hown (mvT hZ (hw _ (List.mem_of_getElem? (i := 46) rfl))) (mvT hZ (hw _ (List.mem_of_getElem? (i := 47) rfl))) (notFace_of_selects (args := #[]) (mvT hZ (hw _ (List.mem_of_getElem? (i := 49) rfl)))) (mvT hZ (hw _ (List.mem_of_getElem? (i := 49) rfl))) (mvT hZ (hw _ (List.mem_of_getElem? (i := 48) rfl))) (by decide) (backOf (W := 0) (rme1 l Z a0 hw [] b2 uu aS kS s0 (0 : Int64) (0 : Int64) (0 : Int64) (0 : Int64) (0 : Int64) (0 : Int64) (0 : Int64) T87.heap n0 ZS87 Fs87 Fn87 Vs87) hZ (hw _ (List.mem_of_getElem? (i := 50) rfl)) (hw _ (List.mem_of_getElem? (i := 7) rfl)) (by decide) (by decide)) q95a q95c (g := (mkF m 238 #[.val (.long q1), .second, .val (.long q2), .second, .val (.long uu), .second, .val (.int p3), .val (.long s0), .second, .val (.long s0), .second, .val (.int (3 : Int32)), .val (.ref b2), .val (.int (1 : Int32)), .val (.long s0), .second, .val (.long (if s0 < uu then s0 else (-1 : Int64))), .second] [(.long uu), (.ref b2)])) rfl (by rw [hml]; rfl) (Steps.refl _) (argsL := [(.long uu)]) (rest := []) (lenOf pd0_2 rfl) rfl (by show 2 * 0 + _ ≤ _; exact Nat.le_of_eq rfl) (hb hby at_238) (fun _ _ => ⟨rfl, rfl, (by decide : 3 + 0 ≤ _), (by decide : 19 + 0 ≤ _)⟩)
      dsimp only [Pt.U, Pt.locs, Pt.cells, Pt.slots] at X95 lq95 yq95 zq95 st95 hQ95
      subst lq95 yq95 zq95
      obtain ⟨rfl, Nq95, e95⟩ := hQ95
      have N95 := Fr.app N87 Nq95
      refine OGo.steps st95 ?_
      show OGo p e below _ (T95.setTop (mkF m 241 #[.val (.long q1), .second, .val (.long q2), .second, .val (.long uu), .second, .val (.int p3), .val (.long s0), .second, .val (.long s0), .second, .val (.int (3 : Int32)), .val (.ref b2), .val (.int (1 : Int32)), .val (.long s0), .second, .val (.long (if s0 < uu then s0 else (-1 : Int64))), .second] [(.long (if s0 < uu then s0 else (-1 : Int64)))]))
      refine OGo.step (fun uK kK => XS.lload X95.here hx rfl (hb hby at_241) rfl kK) ?_
      show OGo p e below _ (T95.setTop (mkF m 243 #[.val (.long q1), .second, .val (.long q2), .second, .val (.long uu), .second, .val (.int p3), .val (.long s0), .second, .val (.long s0), .second, .val (.int (3 : Int32)), .val (.ref b2), .val (.int (1 : Int32)), .val (.long s0), .second, .val (.long (if s0 < uu then s0 else (-1 : Int64))), .second] [(.long (if s0 < uu then s0 else (-1 : Int64))), (.long (if s0 < uu then s0 else (-1 : Int64)))]))
      refine OGo.step (fun uK kK => XS.lcmp X95.here hx rfl (hb hby at_243) rfl kK) ?_
      show OGo p e below _ (T95.setTop (mkF m 244 #[.val (.long q1), .second, .val (.long q2), .second, .val (.long uu), .second, .val (.int p3), .val (.long s0), .second, .val (.long s0), .second, .val (.int (3 : Int32)), .val (.ref b2), .val (.int (1 : Int32)), .val (.long s0), .second, .val (.long (if s0 < uu then s0 else (-1 : Int64))), .second] [(.int (lcmpW (if s0 < uu then s0 else (-1 : Int64)) (if s0 < uu then s0 else (-1 : Int64))))]))
      have hc244 : (if s0 < uu then s0 else (-1 : Int64)) = (if s0 < uu then s0 else (-1 : Int64)) := rfl
      refine OGo.step (fun uK kK => XS.ifNo X95.here hx rfl (hb hby at_244) rfl ((if0 _ _).trans (teq ((lw_eq _ _).mpr hc244)).2) kK) ?_
      show OGo p e below _ (T95.setTop (mkF m 247 #[.val (.long q1), .second, .val (.long q2), .second, .val (.long uu), .second, .val (.int p3), .val (.long s0), .second, .val (.long s0), .second, .val (.int (3 : Int32)), .val (.ref b2), .val (.int (1 : Int32)), .val (.long s0), .second, .val (.long (if s0 < uu then s0 else (-1 : Int64))), .second] []))
      refine OGo.step (fun uK kK => XS.iconst X95.here hx rfl (hb hby at_247) kK) ?_
      show OGo p e below _ (T95.setTop (mkF m 248 #[.val (.long q1), .second, .val (.long q2), .second, .val (.long uu), .second, .val (.int p3), .val (.long s0), .second, .val (.long s0), .second, .val (.int (3 : Int32)), .val (.ref b2), .val (.int (1 : Int32)), .val (.long s0), .second, .val (.long (if s0 < uu then s0 else (-1 : Int64))), .second] [(.int (1 : Int32))]))
      refine OGo.step (fun uK kK => XS.goto X95.here hx rfl (pc0 := 248) (pc' := 252) rfl (hb hby at_248) (by decide) (by decide) kK) ?_
      show OGo p e below _ (T95.setTop (mkF m 252 #[.val (.long q1), .second, .val (.long q2), .second, .val (.long uu), .second, .val (.int p3), .val (.long s0), .second, .val (.long s0), .second, .val (.int (3 : Int32)), .val (.ref b2), .val (.int (1 : Int32)), .val (.long s0), .second, .val (.long (if s0 < uu then s0 else (-1 : Int64))), .second] [(.int (1 : Int32))]))
      exact OGo.retN X95 hx Bd.notSynchronized (t := .boolean) Bd.returns (by simp) (hb hby at_252) (by decide) (by decide) (by show Q0 Z q1 q2 uu p3 h0 n0 _ T95.heap _; rw [e95]; exact ⟨rfl, N95⟩)
  · skip
    subst h
    show OGo p e below _ (T3.setTop (mkF m 35 #[.val (.long q1), .second, .val (.long q2), .second, .val (.long uu), .second, .val (.int p3), .val (.long s0), .second, .val (.long s1), .second, .val (.int (4 : Int32)), .val (.ref b2), .unset, .unset, .unset, .unset, .unset] []))
    refine OGo.step (fun uK kK => XS.iload X3.here hx rfl (hb hby at_35) rfl kK) ?_
    show OGo p e below _ (T3.setTop (mkF m 37 #[.val (.long q1), .second, .val (.long q2), .second, .val (.long uu), .second, .val (.int p3), .val (.long s0), .second, .val (.long s1), .second, .val (.int (4 : Int32)), .val (.ref b2), .unset, .unset, .unset, .unset, .unset] [(.int (4 : Int32))]))
    have hc37 : ¬ ((4 : Int32) = (0 : Int32)) := by decide
    refine OGo.step (fun uK kK => XS.ifNo X3.here hx rfl (hb hby at_37) rfl ((if0 _ _).trans (feq hc37).1) kK) ?_
    show OGo p e below _ (T3.setTop (mkF m 40 #[.val (.long q1), .second, .val (.long q2), .second, .val (.long uu), .second, .val (.int p3), .val (.long s0), .second, .val (.long s1), .second, .val (.int (4 : Int32)), .val (.ref b2), .unset, .unset, .unset, .unset, .unset] []))
    refine OGo.step (fun uK kK => XS.aload X3.here hx rfl (hb hby at_40) rfl rfl kK) ?_
    refine OGo.step (fun uK kK => XS.lload X3.here hx rfl (hb hby at_42) rfl kK) ?_
    show OGo p e below _ (T3.setTop (mkF m 44 #[.val (.long q1), .second, .val (.long q2), .second, .val (.long uu), .second, .val (.int p3), .val (.long s0), .second, .val (.long s1), .second, .val (.int (4 : Int32)), .val (.ref b2), .unset, .unset, .unset, .unset, .unset] [(.long s0), (.ref b2)]))
    obtain ⟨cq96, kq96, q96a, q96b, q96c⟩ := isOf hZ rfl A2_4
    obtain ⟨_, _, ⟨T96, Lq96, kq_96, nq_96⟩, -, X96, ⟨Lc96, hQ96, lq96, yq96, zq96⟩, st96⟩ := X3.virtualBack hx (y := (⟨"com/example/graph_of_conflicts/graphofconflicts/engine/OpenSnapshots", "add", "(J)V"⟩ : MethodName)) (z := (⟨"com/example/graph_of_conflicts/graphofconflicts/engine/OpenSnapshots", "add", "(J)V"⟩ : MethodName)) hown (mvT hZ (hw _ (List.mem_of_getElem? (i := 20) rfl))) (mvT hZ (hw _ (List.mem_of_getElem? (i := 21) rfl))) (notFace_of_selects (args := #[]) (mvT hZ (hw _ (List.mem_of_getElem? (i := 23) rfl)))) (mvT hZ (hw _ (List.mem_of_getElem? (i := 23) rfl))) (mvT hZ (hw _ (List.mem_of_getElem? (i := 22) rfl))) (by decide) (backOf (W := 0) (rma0 l Z a0 hw [] b2 aS kS (0 : Int64) (0 : Int64) (0 : Int64) (0 : Int64) (0 : Int64) (0 : Int64) (0 : Int64) (0 : Int64) aH kH (0 : Int32) (0 : Int32) (0 : Int32) (0 : Int32) (0 : Int32) (0 : Int32) (0 : Int32) (0 : Int32) s0 T3.heap n0 ZS3 Fs3 Fh3 Fn3 Vs3 Vh3 A2_4 gn_b2 gS gH ne_b2_aS ne_b2_aH neSH) hZ (hw _ (List.mem_of_getElem? (i := 24) rfl)) (hw _ (List.mem_of_getElem? (i := 7) rfl)) (by decide) (by decide)) q96a q96c (g := (mkF m 44 #[.val (.long q1), .second, .val (.long q2), .second, .val (.long uu), .second, .val (.int p3), .val (.long s0), .second, .val (.long s1), .second, .val (.int (4 : Int32)), .val (.ref b2), .unset, .unset, .unset, .unset, .unset] [(.long s0), (.ref b2)])) rfl (by rw [hml]; rfl) (Steps.refl _) (argsL := [(.long s0)]) (rest := []) (lenOf pd0_3 rfl) rfl (by show 2 * 0 + _ ≤ _; exact Nat.le_of_eq rfl) (hb hby at_44) (fun _ _ => ⟨rfl, rfl, (by decide : 3 + 0 ≤ _), (by decide : 19 + 0 ≤ _)⟩)
    dsimp only [Pt.U, Pt.locs, Pt.cells, Pt.slots] at X96 lq96 yq96 zq96 st96 hQ96
    subst lq96 yq96 zq96
    obtain ⟨rfl, Nq96, K96, Fs96, Fh96, Fn96, Vs96, Vh96⟩ := hQ96
    have A2_97 := (A2_4.keep K96)
    have ZS96 : n0 ≤ T96.heap.size := Nat.le_trans ZS3 K96.1
    have KC96 : Keep h0 T96.heap [] := KC3.trans K96 (allS (Or.inr sz_b2) (allS (Or.inr sz_aS) (allS (Or.inr sz_aH) all0)))
    have N96 := Fr.app N3 Nq96
    refine OGo.steps st96 ?_
    show OGo p e below _ (T96.setTop (mkF m 47 #[.val (.long q1), .second, .val (.long q2), .second, .val (.long uu), .second, .val (.int p3), .val (.long s0), .second, .val (.long s1), .second, .val (.int (4 : Int32)), .val (.ref b2), .unset, .unset, .unset, .unset, .unset] []))
    refine OGo.step (fun uK kK => XS.iload X96.here hx rfl (hb hby at_47) rfl kK) ?_
    refine OGo.step (fun uK kK => XS.iconst X96.here hx rfl (hb hby at_49) kK) ?_
    show OGo p e below _ (T96.setTop (mkF m 50 #[.val (.long q1), .second, .val (.long q2), .second, .val (.long uu), .second, .val (.int p3), .val (.long s0), .second, .val (.long s1), .second, .val (.int (4 : Int32)), .val (.ref b2), .unset, .unset, .unset, .unset, .unset] [(.int (2 : Int32)), (.int (4 : Int32))]))
    have hc50 : ¬ ((4 : Int32) = (2 : Int32)) := by decide
    refine OGo.step (fun uK kK => XS.icmpNo X96.here hx rfl (hb hby at_50) rfl (feq hc50).1 kK) ?_
    show OGo p e below _ (T96.setTop (mkF m 53 #[.val (.long q1), .second, .val (.long q2), .second, .val (.long uu), .second, .val (.int p3), .val (.long s0), .second, .val (.long s1), .second, .val (.int (4 : Int32)), .val (.ref b2), .unset, .unset, .unset, .unset, .unset] []))
    refine OGo.step (fun uK kK => XS.iload X96.here hx rfl (hb hby at_53) rfl kK) ?_
    refine OGo.step (fun uK kK => XS.iconst X96.here hx rfl (hb hby at_55) kK) ?_
    show OGo p e below _ (T96.setTop (mkF m 56 #[.val (.long q1), .second, .val (.long q2), .second, .val (.long uu), .second, .val (.int p3), .val (.long s0), .second, .val (.long s1), .second, .val (.int (4 : Int32)), .val (.ref b2), .unset, .unset, .unset, .unset, .unset] [(.int (3 : Int32)), (.int (4 : Int32))]))
    have hc56 : ¬ ((4 : Int32) = (3 : Int32)) := by decide
    refine OGo.step (fun uK kK => XS.icmpNo X96.here hx rfl (hb hby at_56) rfl (feq hc56).1 kK) ?_
    show OGo p e below _ (T96.setTop (mkF m 59 #[.val (.long q1), .second, .val (.long q2), .second, .val (.long uu), .second, .val (.int p3), .val (.long s0), .second, .val (.long s1), .second, .val (.int (4 : Int32)), .val (.ref b2), .unset, .unset, .unset, .unset, .unset] []))
    refine OGo.step (fun uK kK => XS.iload X96.here hx rfl (hb hby at_59) rfl kK) ?_
    refine OGo.step (fun uK kK => XS.iconst X96.here hx rfl (hb hby at_61) kK) ?_
    show OGo p e below _ (T96.setTop (mkF m 62 #[.val (.long q1), .second, .val (.long q2), .second, .val (.long uu), .second, .val (.int p3), .val (.long s0), .second, .val (.long s1), .second, .val (.int (4 : Int32)), .val (.ref b2), .unset, .unset, .unset, .unset, .unset] [(.int (5 : Int32)), (.int (4 : Int32))]))
    have hc62 : ¬ ((4 : Int32) = (5 : Int32)) := by decide
    refine OGo.step (fun uK kK => XS.icmpNo X96.here hx rfl (hb hby at_62) rfl (feq hc62).1 kK) ?_
    show OGo p e below _ (T96.setTop (mkF m 65 #[.val (.long q1), .second, .val (.long q2), .second, .val (.long uu), .second, .val (.int p3), .val (.long s0), .second, .val (.long s1), .second, .val (.int (4 : Int32)), .val (.ref b2), .unset, .unset, .unset, .unset, .unset] []))
    refine OGo.step (fun uK kK => XS.iload X96.here hx rfl (hb hby at_65) rfl kK) ?_
    refine OGo.step (fun uK kK => XS.bipush X96.here hx rfl (hb hby at_67) kK) ?_
    show OGo p e below _ (T96.setTop (mkF m 69 #[.val (.long q1), .second, .val (.long q2), .second, .val (.long uu), .second, .val (.int p3), .val (.long s0), .second, .val (.long s1), .second, .val (.int (4 : Int32)), .val (.ref b2), .unset, .unset, .unset, .unset, .unset] [(.int (7 : Int32)), (.int (4 : Int32))]))
    have hc69 : ¬ ((4 : Int32) = (7 : Int32)) := by decide
    refine OGo.step (fun uK kK => XS.icmpYes X96.here hx rfl (pc0 := 69) (pc' := 79) rfl (hb hby at_69) rfl (feq hc69).2 (by decide) (by decide) kK) ?_
    show OGo p e below _ (T96.setTop (mkF m 79 #[.val (.long q1), .second, .val (.long q2), .second, .val (.long uu), .second, .val (.int p3), .val (.long s0), .second, .val (.long s1), .second, .val (.int (4 : Int32)), .val (.ref b2), .unset, .unset, .unset, .unset, .unset] []))
    refine OGo.step (fun uK kK => XS.iload X96.here hx rfl (hb hby at_79) rfl kK) ?_
    refine OGo.step (fun uK kK => XS.bipush X96.here hx rfl (hb hby at_81) kK) ?_
    show OGo p e below _ (T96.setTop (mkF m 83 #[.val (.long q1), .second, .val (.long q2), .second, .val (.long uu), .second, .val (.int p3), .val (.long s0), .second, .val (.long s1), .second, .val (.int (4 : Int32)), .val (.ref b2), .unset, .unset, .unset, .unset, .unset] [(.int (6 : Int32)), (.int (4 : Int32))]))
    have hc83 : ¬ ((4 : Int32) = (6 : Int32)) := by decide
    refine OGo.step (fun uK kK => XS.icmpYes X96.here hx rfl (pc0 := 83) (pc' := 93) rfl (hb hby at_83) rfl (feq hc83).2 (by decide) (by decide) kK) ?_
    show OGo p e below _ (T96.setTop (mkF m 93 #[.val (.long q1), .second, .val (.long q2), .second, .val (.long uu), .second, .val (.int p3), .val (.long s0), .second, .val (.long s1), .second, .val (.int (4 : Int32)), .val (.ref b2), .unset, .unset, .unset, .unset, .unset] []))
    refine OGo.step (fun uK kK => XS.iload X96.here hx rfl (hb hby at_93) rfl kK) ?_
    refine OGo.step (fun uK kK => XS.iconst X96.here hx rfl (hb hby at_95) kK) ?_
    show OGo p e below _ (T96.setTop (mkF m 96 #[.val (.long q1), .second, .val (.long q2), .second, .val (.long uu), .second, .val (.int p3), .val (.long s0), .second, .val (.long s1), .second, .val (.int (4 : Int32)), .val (.ref b2), .unset, .unset, .unset, .unset, .unset] [(.int (3 : Int32)), (.int (4 : Int32))]))
    have hc96 : ¬ ((4 : Int32) = (3 : Int32)) := by decide
    refine OGo.step (fun uK kK => XS.icmpNo X96.here hx rfl (hb hby at_96) rfl (feq hc96).1 kK) ?_
    show OGo p e below _ (T96.setTop (mkF m 99 #[.val (.long q1), .second, .val (.long q2), .second, .val (.long uu), .second, .val (.int p3), .val (.long s0), .second, .val (.long s1), .second, .val (.int (4 : Int32)), .val (.ref b2), .unset, .unset, .unset, .unset, .unset] []))
    refine OGo.step (fun uK kK => XS.iload X96.here hx rfl (hb hby at_99) rfl kK) ?_
    refine OGo.step (fun uK kK => XS.iconst X96.here hx rfl (hb hby at_101) kK) ?_
    show OGo p e below _ (T96.setTop (mkF m 102 #[.val (.long q1), .second, .val (.long q2), .second, .val (.long uu), .second, .val (.int p3), .val (.long s0), .second, .val (.long s1), .second, .val (.int (4 : Int32)), .val (.ref b2), .unset, .unset, .unset, .unset, .unset] [(.int (4 : Int32)), (.int (4 : Int32))]))
    have hc102 : (4 : Int32) = (4 : Int32) := by decide
    refine OGo.step (fun uK kK => XS.icmpYes X96.here hx rfl (pc0 := 102) (pc' := 119) rfl (hb hby at_102) rfl (teq hc102).1 (by decide) (by decide) kK) ?_
    show OGo p e below _ (T96.setTop (mkF m 119 #[.val (.long q1), .second, .val (.long q2), .second, .val (.long uu), .second, .val (.int p3), .val (.long s0), .second, .val (.long s1), .second, .val (.int (4 : Int32)), .val (.ref b2), .unset, .unset, .unset, .unset, .unset] []))
    refine OGo.step (fun uK kK => XS.aload X96.here hx rfl (hb hby at_119) rfl rfl kK) ?_
    refine OGo.step (fun uK kK => XS.lload X96.here hx rfl (hb hby at_121) rfl kK) ?_
    show OGo p e below _ (T96.setTop (mkF m 123 #[.val (.long q1), .second, .val (.long q2), .second, .val (.long uu), .second, .val (.int p3), .val (.long s0), .second, .val (.long s1), .second, .val (.int (4 : Int32)), .val (.ref b2), .unset, .unset, .unset, .unset, .unset] [(.long s0), (.ref b2)]))
    obtain ⟨cq103, kq103, q103a, q103b, q103c⟩ := isOf hZ rfl A2_97
    obtain ⟨_, _, ⟨T103, Lq103, kq_103, nq_103⟩, -, X103, ⟨Lc103, hQ103, lq103, yq103, zq103⟩, st103⟩ := X96.virtualBack hx (y := (⟨"com/example/graph_of_conflicts/graphofconflicts/engine/OpenSnapshots", "remove", "(J)Z"⟩ : MethodName)) (z := (⟨"com/example/graph_of_conflicts/graphofconflicts/engine/OpenSnapshots", "remove", "(J)Z"⟩ : MethodName)) hown (mvT hZ (hw _ (List.mem_of_getElem? (i := 52) rfl))) (mvT hZ (hw _ (List.mem_of_getElem? (i := 53) rfl))) (notFace_of_selects (args := #[]) (mvT hZ (hw _ (List.mem_of_getElem? (i := 55) rfl)))) (mvT hZ (hw _ (List.mem_of_getElem? (i := 55) rfl))) (mvT hZ (hw _ (List.mem_of_getElem? (i := 54) rfl))) (by decide) (backOf (W := 0) (rmr1 l Z a0 hw [] b2 aS kS s0 (0 : Int64) (0 : Int64) (0 : Int64) (0 : Int64) (0 : Int64) (0 : Int64) (0 : Int64) aH kH (1 : Int32) (0 : Int32) (0 : Int32) (0 : Int32) (0 : Int32) (0 : Int32) (0 : Int32) (0 : Int32) T96.heap n0 ZS96 Fs96 Fh96 Fn96 Vs96 Vh96 A2_97 gn_b2 gS gH ne_b2_aS ne_b2_aH neSH) hZ (hw _ (List.mem_of_getElem? (i := 56) rfl)) (hw _ (List.mem_of_getElem? (i := 7) rfl)) (by decide) (by decide)) q103a q103c (g := (mkF m 123 #[.val (.long q1), .second, .val (.long q2), .second, .val (.long uu), .second, .val (.int p3), .val (.long s0), .second, .val (.long s1), .second, .val (.int (4 : Int32)), .val (.ref b2), .unset, .unset, .unset, .unset, .unset] [(.long s0), (.ref b2)])) rfl (by rw [hml]; rfl) (Steps.refl _) (argsL := [(.long s0)]) (rest := []) (lenOf pd0_4 rfl) rfl (by show 2 * 0 + _ ≤ _; exact Nat.le_of_eq rfl) (hb hby at_123) (fun _ _ => ⟨rfl, rfl, (by decide : 3 + 0 ≤ _), (by decide : 19 + 0 ≤ _)⟩)
    dsimp only [Pt.U, Pt.locs, Pt.cells, Pt.slots] at X103 lq103 yq103 zq103 st103 hQ103
    subst lq103 yq103 zq103
    obtain ⟨rfl, Nq103, K103, Fs103, Fh103, Fn103, Vs103, Vh103⟩ := hQ103
    have A2_104 := (A2_97.keep K103)
    have ZS103 : n0 ≤ T103.heap.size := Nat.le_trans ZS96 K103.1
    have KC103 : Keep h0 T103.heap [] := KC96.trans K103 (allS (Or.inr sz_b2) (allS (Or.inr sz_aS) (allS (Or.inr sz_aH) all0)))
    have N103 := Fr.app N96 Nq103
    refine OGo.steps st103 ?_
    show OGo p e below _ (T103.setTop (mkF m 126 #[.val (.long q1), .second, .val (.long q2), .second, .val (.long uu), .second, .val (.int p3), .val (.long s0), .second, .val (.long s1), .second, .val (.int (4 : Int32)), .val (.ref b2), .unset, .unset, .unset, .unset, .unset] [(.int (1 : Int32))]))
    refine OGo.step (fun uK kK => XS.pop X103.here hx rfl (hb hby at_126) rfl rfl kK) ?_
    refine OGo.step (fun uK kK => XS.iload X103.here hx rfl (hb hby at_127) rfl kK) ?_
    refine OGo.step (fun uK kK => XS.iconst X103.here hx rfl (hb hby at_129) kK) ?_
    show OGo p e below _ (T103.setTop (mkF m 130 #[.val (.long q1), .second, .val (.long q2), .second, .val (.long uu), .second, .val (.int p3), .val (.long s0), .second, .val (.long s1), .second, .val (.int (4 : Int32)), .val (.ref b2), .unset, .unset, .unset, .unset, .unset] [(.int (5 : Int32)), (.int (4 : Int32))]))
    have hc130 : ¬ ((4 : Int32) = (5 : Int32)) := by decide
    refine OGo.step (fun uK kK => XS.icmpNo X103.here hx rfl (hb hby at_130) rfl (feq hc130).1 kK) ?_
    show OGo p e below _ (T103.setTop (mkF m 133 #[.val (.long q1), .second, .val (.long q2), .second, .val (.long uu), .second, .val (.int p3), .val (.long s0), .second, .val (.long s1), .second, .val (.int (4 : Int32)), .val (.ref b2), .unset, .unset, .unset, .unset, .unset] []))
    refine OGo.step (fun uK kK => XS.iload X103.here hx rfl (hb hby at_133) rfl kK) ?_
    refine OGo.step (fun uK kK => XS.bipush X103.here hx rfl (hb hby at_135) kK) ?_
    show OGo p e below _ (T103.setTop (mkF m 137 #[.val (.long q1), .second, .val (.long q2), .second, .val (.long uu), .second, .val (.int p3), .val (.long s0), .second, .val (.long s1), .second, .val (.int (4 : Int32)), .val (.ref b2), .unset, .unset, .unset, .unset, .unset] [(.int (7 : Int32)), (.int (4 : Int32))]))
    have hc137 : ¬ ((4 : Int32) = (7 : Int32)) := by decide
    refine OGo.step (fun uK kK => XS.icmpYes X103.here hx rfl (pc0 := 137) (pc' := 148) rfl (hb hby at_137) rfl (feq hc137).2 (by decide) (by decide) kK) ?_
    show OGo p e below _ (T103.setTop (mkF m 148 #[.val (.long q1), .second, .val (.long q2), .second, .val (.long uu), .second, .val (.int p3), .val (.long s0), .second, .val (.long s1), .second, .val (.int (4 : Int32)), .val (.ref b2), .unset, .unset, .unset, .unset, .unset] []))
    refine OGo.step (fun uK kK => XS.iload X103.here hx rfl (hb hby at_148) rfl kK) ?_
    refine OGo.step (fun uK kK => XS.iconst X103.here hx rfl (hb hby at_150) kK) ?_
    show OGo p e below _ (T103.setTop (mkF m 151 #[.val (.long q1), .second, .val (.long q2), .second, .val (.long uu), .second, .val (.int p3), .val (.long s0), .second, .val (.long s1), .second, .val (.int (4 : Int32)), .val (.ref b2), .unset, .unset, .unset, .unset, .unset] [(.int (1 : Int32)), (.int (4 : Int32))]))
    have hc151 : ¬ ((4 : Int32) = (1 : Int32)) := by decide
    refine OGo.step (fun uK kK => XS.icmpNo X103.here hx rfl (hb hby at_151) rfl (feq hc151).1 kK) ?_
    show OGo p e below _ (T103.setTop (mkF m 154 #[.val (.long q1), .second, .val (.long q2), .second, .val (.long uu), .second, .val (.int p3), .val (.long s0), .second, .val (.long s1), .second, .val (.int (4 : Int32)), .val (.ref b2), .unset, .unset, .unset, .unset, .unset] []))
    refine OGo.step (fun uK kK => XS.iload X103.here hx rfl (hb hby at_154) rfl kK) ?_
    refine OGo.step (fun uK kK => XS.iconst X103.here hx rfl (hb hby at_156) kK) ?_
    show OGo p e below _ (T103.setTop (mkF m 157 #[.val (.long q1), .second, .val (.long q2), .second, .val (.long uu), .second, .val (.int p3), .val (.long s0), .second, .val (.long s1), .second, .val (.int (4 : Int32)), .val (.ref b2), .unset, .unset, .unset, .unset, .unset] [(.int (2 : Int32)), (.int (4 : Int32))]))
    have hc157 : ¬ ((4 : Int32) = (2 : Int32)) := by decide
    refine OGo.step (fun uK kK => XS.icmpNo X103.here hx rfl (hb hby at_157) rfl (feq hc157).1 kK) ?_
    show OGo p e below _ (T103.setTop (mkF m 160 #[.val (.long q1), .second, .val (.long q2), .second, .val (.long uu), .second, .val (.int p3), .val (.long s0), .second, .val (.long s1), .second, .val (.int (4 : Int32)), .val (.ref b2), .unset, .unset, .unset, .unset, .unset] []))
    refine OGo.step (fun uK kK => XS.iload X103.here hx rfl (hb hby at_160) rfl kK) ?_
    refine OGo.step (fun uK kK => XS.iconst X103.here hx rfl (hb hby at_162) kK) ?_
    show OGo p e below _ (T103.setTop (mkF m 163 #[.val (.long q1), .second, .val (.long q2), .second, .val (.long uu), .second, .val (.int p3), .val (.long s0), .second, .val (.long s1), .second, .val (.int (4 : Int32)), .val (.ref b2), .unset, .unset, .unset, .unset, .unset] [(.int (3 : Int32)), (.int (4 : Int32))]))
    have hc163 : ¬ ((4 : Int32) = (3 : Int32)) := by decide
    refine OGo.step (fun uK kK => XS.icmpNo X103.here hx rfl (hb hby at_163) rfl (feq hc163).1 kK) ?_
    show OGo p e below _ (T103.setTop (mkF m 166 #[.val (.long q1), .second, .val (.long q2), .second, .val (.long uu), .second, .val (.int p3), .val (.long s0), .second, .val (.long s1), .second, .val (.int (4 : Int32)), .val (.ref b2), .unset, .unset, .unset, .unset, .unset] []))
    refine OGo.step (fun uK kK => XS.iload X103.here hx rfl (hb hby at_166) rfl kK) ?_
    refine OGo.step (fun uK kK => XS.iconst X103.here hx rfl (hb hby at_168) kK) ?_
    show OGo p e below _ (T103.setTop (mkF m 169 #[.val (.long q1), .second, .val (.long q2), .second, .val (.long uu), .second, .val (.int p3), .val (.long s0), .second, .val (.long s1), .second, .val (.int (4 : Int32)), .val (.ref b2), .unset, .unset, .unset, .unset, .unset] [(.int (5 : Int32)), (.int (4 : Int32))]))
    have hc169 : ¬ ((4 : Int32) = (5 : Int32)) := by decide
    refine OGo.step (fun uK kK => XS.icmpNo X103.here hx rfl (hb hby at_169) rfl (feq hc169).1 kK) ?_
    show OGo p e below _ (T103.setTop (mkF m 172 #[.val (.long q1), .second, .val (.long q2), .second, .val (.long uu), .second, .val (.int p3), .val (.long s0), .second, .val (.long s1), .second, .val (.int (4 : Int32)), .val (.ref b2), .unset, .unset, .unset, .unset, .unset] []))
    refine OGo.step (fun uK kK => XS.iload X103.here hx rfl (hb hby at_172) rfl kK) ?_
    refine OGo.step (fun uK kK => XS.bipush X103.here hx rfl (hb hby at_174) kK) ?_
    show OGo p e below _ (T103.setTop (mkF m 176 #[.val (.long q1), .second, .val (.long q2), .second, .val (.long uu), .second, .val (.int p3), .val (.long s0), .second, .val (.long s1), .second, .val (.int (4 : Int32)), .val (.ref b2), .unset, .unset, .unset, .unset, .unset] [(.int (6 : Int32)), (.int (4 : Int32))]))
    have hc176 : ¬ ((4 : Int32) = (6 : Int32)) := by decide
    refine OGo.step (fun uK kK => XS.icmpYes X103.here hx rfl (pc0 := 176) (pc' := 183) rfl (hb hby at_176) rfl (feq hc176).2 (by decide) (by decide) kK) ?_
    show OGo p e below _ (T103.setTop (mkF m 183 #[.val (.long q1), .second, .val (.long q2), .second, .val (.long uu), .second, .val (.int p3), .val (.long s0), .second, .val (.long s1), .second, .val (.int (4 : Int32)), .val (.ref b2), .unset, .unset, .unset, .unset, .unset] []))
    refine OGo.step (fun uK kK => XS.iconst X103.here hx rfl (hb hby at_183) kK) ?_
    show OGo p e below _ (T103.setTop (mkF m 184 #[.val (.long q1), .second, .val (.long q2), .second, .val (.long uu), .second, .val (.int p3), .val (.long s0), .second, .val (.long s1), .second, .val (.int (4 : Int32)), .val (.ref b2), .unset, .unset, .unset, .unset, .unset] [(.int (0 : Int32))]))
    refine OGo.step (fun uK kK => XS.istore X103.here hx rfl (hb hby at_184) rfl (l' := #[.val (.long q1), .second, .val (.long q2), .second, .val (.long uu), .second, .val (.int p3), .val (.long s0), .second, .val (.long s1), .second, .val (.int (4 : Int32)), .val (.ref b2), .val (.int (0 : Int32)), .unset, .unset, .unset, .unset]) rfl kK) ?_
    refine OGo.step (fun uK kK => XS.iload X103.here hx rfl (hb hby at_186) rfl kK) ?_
    refine OGo.step (fun uK kK => XS.iconst X103.here hx rfl (hb hby at_188) kK) ?_
    show OGo p e below _ (T103.setTop (mkF m 189 #[.val (.long q1), .second, .val (.long q2), .second, .val (.long uu), .second, .val (.int p3), .val (.long s0), .second, .val (.long s1), .second, .val (.int (4 : Int32)), .val (.ref b2), .val (.int (0 : Int32)), .unset, .unset, .unset, .unset] [(.int (3 : Int32)), (.int (4 : Int32))]))
    have hc189 : ¬ ((4 : Int32) = (3 : Int32)) := by decide
    refine OGo.step (fun uK kK => XS.icmpYes X103.here hx rfl (pc0 := 189) (pc' := 197) rfl (hb hby at_189) rfl (feq hc189).2 (by decide) (by decide) kK) ?_
    show OGo p e below _ (T103.setTop (mkF m 197 #[.val (.long q1), .second, .val (.long q2), .second, .val (.long uu), .second, .val (.int p3), .val (.long s0), .second, .val (.long s1), .second, .val (.int (4 : Int32)), .val (.ref b2), .val (.int (0 : Int32)), .unset, .unset, .unset, .unset] []))
    refine OGo.step (fun uK kK => XS.lload X103.here hx rfl (hb hby at_197) rfl kK) ?_
    show OGo p e below _ (T103.setTop (mkF m 199 #[.val (.long q1), .second, .val (.long q2), .second, .val (.long uu), .second, .val (.int p3), .val (.long s0), .second, .val (.long s1), .second, .val (.int (4 : Int32)), .val (.ref b2), .val (.int (0 : Int32)), .unset, .unset, .unset, .unset] [(.long s0)]))
    refine OGo.step (fun uK kK => XS.lstore X103.here hx rfl (hb hby at_199) rfl (l' := #[.val (.long q1), .second, .val (.long q2), .second, .val (.long uu), .second, .val (.int p3), .val (.long s0), .second, .val (.long s1), .second, .val (.int (4 : Int32)), .val (.ref b2), .val (.int (0 : Int32)), .val (.long s0), .second, .unset, .unset]) rfl kK) ?_
    refine OGo.step (fun uK kK => XS.iload X103.here hx rfl (hb hby at_201) rfl kK) ?_
    show OGo p e below _ (T103.setTop (mkF m 203 #[.val (.long q1), .second, .val (.long q2), .second, .val (.long uu), .second, .val (.int p3), .val (.long s0), .second, .val (.long s1), .second, .val (.int (4 : Int32)), .val (.ref b2), .val (.int (0 : Int32)), .val (.long s0), .second, .unset, .unset] [(.int (0 : Int32))]))
    have hc203 : (0 : Int32) = (0 : Int32) := by decide
    refine OGo.step (fun uK kK => XS.ifNo X103.here hx rfl (hb hby at_203) rfl ((if0 _ _).trans (teq hc203).2) kK) ?_
    show OGo p e below _ (T103.setTop (mkF m 206 #[.val (.long q1), .second, .val (.long q2), .second, .val (.long uu), .second, .val (.int p3), .val (.long s0), .second, .val (.long s1), .second, .val (.int (4 : Int32)), .val (.ref b2), .val (.int (0 : Int32)), .val (.long s0), .second, .unset, .unset] []))
    refine OGo.step (fun uK kK => X103.ldc2J hx hown (mvT hZ (hw _ (List.mem_of_getElem? (i := 45) rfl))) rfl (hb hby at_206) kK) ?_
    show OGo p e below _ (T103.setTop (mkF m 209 #[.val (.long q1), .second, .val (.long q2), .second, .val (.long uu), .second, .val (.int p3), .val (.long s0), .second, .val (.long s1), .second, .val (.int (4 : Int32)), .val (.ref b2), .val (.int (0 : Int32)), .val (.long s0), .second, .unset, .unset] [(.long (-1 : Int64))]))
    refine OGo.step (fun uK kK => XS.lstore X103.here hx rfl (hb hby at_209) rfl (l' := #[.val (.long q1), .second, .val (.long q2), .second, .val (.long uu), .second, .val (.int p3), .val (.long s0), .second, .val (.long s1), .second, .val (.int (4 : Int32)), .val (.ref b2), .val (.int (0 : Int32)), .val (.long s0), .second, .val (.long (-1 : Int64)), .second]) rfl kK) ?_
    show OGo p e below _ (T103.setTop (mkF m 211 #[.val (.long q1), .second, .val (.long q2), .second, .val (.long uu), .second, .val (.int p3), .val (.long s0), .second, .val (.long s1), .second, .val (.int (4 : Int32)), .val (.ref b2), .val (.int (0 : Int32)), .val (.long s0), .second, .val (.long (-1 : Int64)), .second] []))
    refine OGo.step (fun uK kK => XS.goto X103.here hx rfl (pc0 := 211) (pc' := 234) rfl (hb hby at_211) (by decide) (by decide) kK) ?_
    refine OGo.step (fun uK kK => XS.aload X103.here hx rfl (hb hby at_234) rfl rfl kK) ?_
    refine OGo.step (fun uK kK => XS.lload X103.here hx rfl (hb hby at_236) rfl kK) ?_
    show OGo p e below _ (T103.setTop (mkF m 238 #[.val (.long q1), .second, .val (.long q2), .second, .val (.long uu), .second, .val (.int p3), .val (.long s0), .second, .val (.long s1), .second, .val (.int (4 : Int32)), .val (.ref b2), .val (.int (0 : Int32)), .val (.long s0), .second, .val (.long (-1 : Int64)), .second] [(.long uu), (.ref b2)]))
    obtain ⟨cq110, kq110, q110a, q110b, q110c⟩ := isOf hZ rfl A2_104
    obtain ⟨_, _, ⟨T110, Lq110, kq_110, nq_110⟩, -, X110, ⟨Lc110, hQ110, lq110, yq110, zq110⟩, st110⟩ := X103.virtualBack hx (y := (⟨"com/example/graph_of_conflicts/graphofconflicts/engine/OpenSnapshots", "earliestBefore", "(J)J"⟩ : MethodName)) (z := (⟨"com/example/graph_of_conflicts/graphofconflicts/engine/OpenSnapshots", "earliestBefore", "(J)J"⟩ : MethodName)) hown (mvT hZ (hw _ (List.mem_of_getElem? (i := 46) rfl))) (mvT hZ (hw _ (List.mem_of_getElem? (i := 47) rfl))) (notFace_of_selects (args := #[]) (mvT hZ (hw _ (List.mem_of_getElem? (i := 49) rfl)))) (mvT hZ (hw _ (List.mem_of_getElem? (i := 49) rfl))) (mvT hZ (hw _ (List.mem_of_getElem? (i := 48) rfl))) (by decide) (backOf (W := 0) (rme0 l Z a0 hw [] b2 uu  T103.heap n0 ZS103 Fn103) hZ (hw _ (List.mem_of_getElem? (i := 50) rfl)) (hw _ (List.mem_of_getElem? (i := 7) rfl)) (by decide) (by decide)) q110a q110c (g := (mkF m 238 #[.val (.long q1), .second, .val (.long q2), .second, .val (.long uu), .second, .val (.int p3), .val (.long s0), .second, .val (.long s1), .second, .val (.int (4 : Int32)), .val (.ref b2), .val (.int (0 : Int32)), .val (.long s0), .second, .val (.long (-1 : Int64)), .second] [(.long uu), (.ref b2)])) rfl (by rw [hml]; rfl) (Steps.refl _) (argsL := [(.long uu)]) (rest := []) (lenOf pd0_2 rfl) rfl (by show 2 * 0 + _ ≤ _; exact Nat.le_of_eq rfl) (hb hby at_238) (fun _ _ => ⟨rfl, rfl, (by decide : 3 + 0 ≤ _), (by decide : 19 + 0 ≤ _)⟩)
    dsimp only [Pt.U, Pt.locs, Pt.cells, Pt.slots] at X110 lq110 yq110 zq110 st110 hQ110
    subst lq110 yq110 zq110
    obtain ⟨rfl, Nq110, e110⟩ := hQ110
    have N110 := Fr.app N103 Nq110
    refine OGo.steps st110 ?_
    show OGo p e below _ (T110.setTop (mkF m 241 #[.val (.long q1), .second, .val (.long q2), .second, .val (.long uu), .second, .val (.int p3), .val (.long s0), .second, .val (.long s1), .second, .val (.int (4 : Int32)), .val (.ref b2), .val (.int (0 : Int32)), .val (.long s0), .second, .val (.long (-1 : Int64)), .second] [(.long (-1 : Int64))]))
    refine OGo.step (fun uK kK => XS.lload X110.here hx rfl (hb hby at_241) rfl kK) ?_
    show OGo p e below _ (T110.setTop (mkF m 243 #[.val (.long q1), .second, .val (.long q2), .second, .val (.long uu), .second, .val (.int p3), .val (.long s0), .second, .val (.long s1), .second, .val (.int (4 : Int32)), .val (.ref b2), .val (.int (0 : Int32)), .val (.long s0), .second, .val (.long (-1 : Int64)), .second] [(.long (-1 : Int64)), (.long (-1 : Int64))]))
    refine OGo.step (fun uK kK => XS.lcmp X110.here hx rfl (hb hby at_243) rfl kK) ?_
    show OGo p e below _ (T110.setTop (mkF m 244 #[.val (.long q1), .second, .val (.long q2), .second, .val (.long uu), .second, .val (.int p3), .val (.long s0), .second, .val (.long s1), .second, .val (.int (4 : Int32)), .val (.ref b2), .val (.int (0 : Int32)), .val (.long s0), .second, .val (.long (-1 : Int64)), .second] [(.int (lcmpW (-1 : Int64) (-1 : Int64)))]))
    have hc244 : (-1 : Int64) = (-1 : Int64) := rfl
    refine OGo.step (fun uK kK => XS.ifNo X110.here hx rfl (hb hby at_244) rfl ((if0 _ _).trans (teq ((lw_eq _ _).mpr hc244)).2) kK) ?_
    show OGo p e below _ (T110.setTop (mkF m 247 #[.val (.long q1), .second, .val (.long q2), .second, .val (.long uu), .second, .val (.int p3), .val (.long s0), .second, .val (.long s1), .second, .val (.int (4 : Int32)), .val (.ref b2), .val (.int (0 : Int32)), .val (.long s0), .second, .val (.long (-1 : Int64)), .second] []))
    refine OGo.step (fun uK kK => XS.iconst X110.here hx rfl (hb hby at_247) kK) ?_
    show OGo p e below _ (T110.setTop (mkF m 248 #[.val (.long q1), .second, .val (.long q2), .second, .val (.long uu), .second, .val (.int p3), .val (.long s0), .second, .val (.long s1), .second, .val (.int (4 : Int32)), .val (.ref b2), .val (.int (0 : Int32)), .val (.long s0), .second, .val (.long (-1 : Int64)), .second] [(.int (1 : Int32))]))
    refine OGo.step (fun uK kK => XS.goto X110.here hx rfl (pc0 := 248) (pc' := 252) rfl (hb hby at_248) (by decide) (by decide) kK) ?_
    show OGo p e below _ (T110.setTop (mkF m 252 #[.val (.long q1), .second, .val (.long q2), .second, .val (.long uu), .second, .val (.int p3), .val (.long s0), .second, .val (.long s1), .second, .val (.int (4 : Int32)), .val (.ref b2), .val (.int (0 : Int32)), .val (.long s0), .second, .val (.long (-1 : Int64)), .second] [(.int (1 : Int32))]))
    exact OGo.retN X110 hx Bd.notSynchronized (t := .boolean) Bd.returns (by simp) (hb hby at_252) (by decide) (by decide) (by show Q0 Z q1 q2 uu p3 h0 n0 _ T110.heap _; rw [e110]; exact ⟨rfl, N110⟩)
  · skip
    subst h
    show OGo p e below _ (T3.setTop (mkF m 35 #[.val (.long q1), .second, .val (.long q2), .second, .val (.long uu), .second, .val (.int p3), .val (.long s0), .second, .val (.long s1), .second, .val (.int (5 : Int32)), .val (.ref b2), .unset, .unset, .unset, .unset, .unset] []))
    rcases own_max s0 _ s1 ev_s1 with hlt | heq
    · skip
      refine OGo.step (fun uK kK => XS.iload X3.here hx rfl (hb hby at_35) rfl kK) ?_
      show OGo p e below _ (T3.setTop (mkF m 37 #[.val (.long q1), .second, .val (.long q2), .second, .val (.long uu), .second, .val (.int p3), .val (.long s0), .second, .val (.long s1), .second, .val (.int (5 : Int32)), .val (.ref b2), .unset, .unset, .unset, .unset, .unset] [(.int (5 : Int32))]))
      have hc37 : ¬ ((5 : Int32) = (0 : Int32)) := by decide
      refine OGo.step (fun uK kK => XS.ifNo X3.here hx rfl (hb hby at_37) rfl ((if0 _ _).trans (feq hc37).1) kK) ?_
      show OGo p e below _ (T3.setTop (mkF m 40 #[.val (.long q1), .second, .val (.long q2), .second, .val (.long uu), .second, .val (.int p3), .val (.long s0), .second, .val (.long s1), .second, .val (.int (5 : Int32)), .val (.ref b2), .unset, .unset, .unset, .unset, .unset] []))
      refine OGo.step (fun uK kK => XS.aload X3.here hx rfl (hb hby at_40) rfl rfl kK) ?_
      refine OGo.step (fun uK kK => XS.lload X3.here hx rfl (hb hby at_42) rfl kK) ?_
      show OGo p e below _ (T3.setTop (mkF m 44 #[.val (.long q1), .second, .val (.long q2), .second, .val (.long uu), .second, .val (.int p3), .val (.long s0), .second, .val (.long s1), .second, .val (.int (5 : Int32)), .val (.ref b2), .unset, .unset, .unset, .unset, .unset] [(.long s0), (.ref b2)]))
      obtain ⟨cq111, kq111, q111a, q111b, q111c⟩ := isOf hZ rfl A2_4
      obtain ⟨_, _, ⟨T111, Lq111, kq_111, nq_111⟩, -, X111, ⟨Lc111, hQ111, lq111, yq111, zq111⟩, st111⟩ := X3.virtualBack hx (y := (⟨"com/example/graph_of_conflicts/graphofconflicts/engine/OpenSnapshots", "add", "(J)V"⟩ : MethodName)) (z := (⟨"com/example/graph_of_conflicts/graphofconflicts/engine/OpenSnapshots", "add", "(J)V"⟩ : MethodName)) hown (mvT hZ (hw _ (List.mem_of_getElem? (i := 20) rfl))) (mvT hZ (hw _ (List.mem_of_getElem? (i := 21) rfl))) (notFace_of_selects (args := #[]) (mvT hZ (hw _ (List.mem_of_getElem? (i := 23) rfl)))) (mvT hZ (hw _ (List.mem_of_getElem? (i := 23) rfl))) (mvT hZ (hw _ (List.mem_of_getElem? (i := 22) rfl))) (by decide) (backOf (W := 0) (rma0 l Z a0 hw [] b2 aS kS (0 : Int64) (0 : Int64) (0 : Int64) (0 : Int64) (0 : Int64) (0 : Int64) (0 : Int64) (0 : Int64) aH kH (0 : Int32) (0 : Int32) (0 : Int32) (0 : Int32) (0 : Int32) (0 : Int32) (0 : Int32) (0 : Int32) s0 T3.heap n0 ZS3 Fs3 Fh3 Fn3 Vs3 Vh3 A2_4 gn_b2 gS gH ne_b2_aS ne_b2_aH neSH) hZ (hw _ (List.mem_of_getElem? (i := 24) rfl)) (hw _ (List.mem_of_getElem? (i := 7) rfl)) (by decide) (by decide)) q111a q111c (g := (mkF m 44 #[.val (.long q1), .second, .val (.long q2), .second, .val (.long uu), .second, .val (.int p3), .val (.long s0), .second, .val (.long s1), .second, .val (.int (5 : Int32)), .val (.ref b2), .unset, .unset, .unset, .unset, .unset] [(.long s0), (.ref b2)])) rfl (by rw [hml]; rfl) (Steps.refl _) (argsL := [(.long s0)]) (rest := []) (lenOf pd0_3 rfl) rfl (by show 2 * 0 + _ ≤ _; exact Nat.le_of_eq rfl) (hb hby at_44) (fun _ _ => ⟨rfl, rfl, (by decide : 3 + 0 ≤ _), (by decide : 19 + 0 ≤ _)⟩)
      dsimp only [Pt.U, Pt.locs, Pt.cells, Pt.slots] at X111 lq111 yq111 zq111 st111 hQ111
      subst lq111 yq111 zq111
      obtain ⟨rfl, Nq111, K111, Fs111, Fh111, Fn111, Vs111, Vh111⟩ := hQ111
      have A2_112 := (A2_4.keep K111)
      have ZS111 : n0 ≤ T111.heap.size := Nat.le_trans ZS3 K111.1
      have KC111 : Keep h0 T111.heap [] := KC3.trans K111 (allS (Or.inr sz_b2) (allS (Or.inr sz_aS) (allS (Or.inr sz_aH) all0)))
      have N111 := Fr.app N3 Nq111
      refine OGo.steps st111 ?_
      show OGo p e below _ (T111.setTop (mkF m 47 #[.val (.long q1), .second, .val (.long q2), .second, .val (.long uu), .second, .val (.int p3), .val (.long s0), .second, .val (.long s1), .second, .val (.int (5 : Int32)), .val (.ref b2), .unset, .unset, .unset, .unset, .unset] []))
      refine OGo.step (fun uK kK => XS.iload X111.here hx rfl (hb hby at_47) rfl kK) ?_
      refine OGo.step (fun uK kK => XS.iconst X111.here hx rfl (hb hby at_49) kK) ?_
      show OGo p e below _ (T111.setTop (mkF m 50 #[.val (.long q1), .second, .val (.long q2), .second, .val (.long uu), .second, .val (.int p3), .val (.long s0), .second, .val (.long s1), .second, .val (.int (5 : Int32)), .val (.ref b2), .unset, .unset, .unset, .unset, .unset] [(.int (2 : Int32)), (.int (5 : Int32))]))
      have hc50 : ¬ ((5 : Int32) = (2 : Int32)) := by decide
      refine OGo.step (fun uK kK => XS.icmpNo X111.here hx rfl (hb hby at_50) rfl (feq hc50).1 kK) ?_
      show OGo p e below _ (T111.setTop (mkF m 53 #[.val (.long q1), .second, .val (.long q2), .second, .val (.long uu), .second, .val (.int p3), .val (.long s0), .second, .val (.long s1), .second, .val (.int (5 : Int32)), .val (.ref b2), .unset, .unset, .unset, .unset, .unset] []))
      refine OGo.step (fun uK kK => XS.iload X111.here hx rfl (hb hby at_53) rfl kK) ?_
      refine OGo.step (fun uK kK => XS.iconst X111.here hx rfl (hb hby at_55) kK) ?_
      show OGo p e below _ (T111.setTop (mkF m 56 #[.val (.long q1), .second, .val (.long q2), .second, .val (.long uu), .second, .val (.int p3), .val (.long s0), .second, .val (.long s1), .second, .val (.int (5 : Int32)), .val (.ref b2), .unset, .unset, .unset, .unset, .unset] [(.int (3 : Int32)), (.int (5 : Int32))]))
      have hc56 : ¬ ((5 : Int32) = (3 : Int32)) := by decide
      refine OGo.step (fun uK kK => XS.icmpNo X111.here hx rfl (hb hby at_56) rfl (feq hc56).1 kK) ?_
      show OGo p e below _ (T111.setTop (mkF m 59 #[.val (.long q1), .second, .val (.long q2), .second, .val (.long uu), .second, .val (.int p3), .val (.long s0), .second, .val (.long s1), .second, .val (.int (5 : Int32)), .val (.ref b2), .unset, .unset, .unset, .unset, .unset] []))
      refine OGo.step (fun uK kK => XS.iload X111.here hx rfl (hb hby at_59) rfl kK) ?_
      refine OGo.step (fun uK kK => XS.iconst X111.here hx rfl (hb hby at_61) kK) ?_
      show OGo p e below _ (T111.setTop (mkF m 62 #[.val (.long q1), .second, .val (.long q2), .second, .val (.long uu), .second, .val (.int p3), .val (.long s0), .second, .val (.long s1), .second, .val (.int (5 : Int32)), .val (.ref b2), .unset, .unset, .unset, .unset, .unset] [(.int (5 : Int32)), (.int (5 : Int32))]))
      have hc62 : (5 : Int32) = (5 : Int32) := by decide
      refine OGo.step (fun uK kK => XS.icmpYes X111.here hx rfl (pc0 := 62) (pc' := 72) rfl (hb hby at_62) rfl (teq hc62).1 (by decide) (by decide) kK) ?_
      show OGo p e below _ (T111.setTop (mkF m 72 #[.val (.long q1), .second, .val (.long q2), .second, .val (.long uu), .second, .val (.int p3), .val (.long s0), .second, .val (.long s1), .second, .val (.int (5 : Int32)), .val (.ref b2), .unset, .unset, .unset, .unset, .unset] []))
      refine OGo.step (fun uK kK => XS.aload X111.here hx rfl (hb hby at_72) rfl rfl kK) ?_
      refine OGo.step (fun uK kK => XS.lload X111.here hx rfl (hb hby at_74) rfl kK) ?_
      show OGo p e below _ (T111.setTop (mkF m 76 #[.val (.long q1), .second, .val (.long q2), .second, .val (.long uu), .second, .val (.int p3), .val (.long s0), .second, .val (.long s1), .second, .val (.int (5 : Int32)), .val (.ref b2), .unset, .unset, .unset, .unset, .unset] [(.long s1), (.ref b2)]))
      obtain ⟨cq118, kq118, q118a, q118b, q118c⟩ := isOf hZ rfl A2_112
      obtain ⟨_, _, ⟨T118, Lq118, kq_118, nq_118⟩, -, X118, ⟨Lc118, hQ118, lq118, yq118, zq118⟩, st118⟩ := X111.virtualBack hx (y := (⟨"com/example/graph_of_conflicts/graphofconflicts/engine/OpenSnapshots", "add", "(J)V"⟩ : MethodName)) (z := (⟨"com/example/graph_of_conflicts/graphofconflicts/engine/OpenSnapshots", "add", "(J)V"⟩ : MethodName)) hown (mvT hZ (hw _ (List.mem_of_getElem? (i := 20) rfl))) (mvT hZ (hw _ (List.mem_of_getElem? (i := 21) rfl))) (notFace_of_selects (args := #[]) (mvT hZ (hw _ (List.mem_of_getElem? (i := 23) rfl)))) (mvT hZ (hw _ (List.mem_of_getElem? (i := 23) rfl))) (mvT hZ (hw _ (List.mem_of_getElem? (i := 22) rfl))) (by decide) (backOf (W := 0) (rma1 l Z a0 hw [] b2 aS kS s0 (0 : Int64) (0 : Int64) (0 : Int64) (0 : Int64) (0 : Int64) (0 : Int64) (0 : Int64) aH kH (1 : Int32) (0 : Int32) (0 : Int32) (0 : Int32) (0 : Int32) (0 : Int32) (0 : Int32) (0 : Int32) s1 T111.heap n0 ZS111 Fs111 Fh111 Fn111 Vs111 Vh111 A2_112 gn_b2 gS gH ne_b2_aS ne_b2_aH neSH hlt) hZ (hw _ (List.mem_of_getElem? (i := 24) rfl)) (hw _ (List.mem_of_getElem? (i := 7) rfl)) (by decide) (by decide)) q118a q118c (g := (mkF m 76 #[.val (.long q1), .second, .val (.long q2), .second, .val (.long uu), .second, .val (.int p3), .val (.long s0), .second, .val (.long s1), .second, .val (.int (5 : Int32)), .val (.ref b2), .unset, .unset, .unset, .unset, .unset] [(.long s1), (.ref b2)])) rfl (by rw [hml]; rfl) (Steps.refl _) (argsL := [(.long s1)]) (rest := []) (lenOf pd0_3 rfl) rfl (by show 2 * 0 + _ ≤ _; exact Nat.le_of_eq rfl) (hb hby at_76) (fun _ _ => ⟨rfl, rfl, (by decide : 3 + 0 ≤ _), (by decide : 19 + 0 ≤ _)⟩)
      dsimp only [Pt.U, Pt.locs, Pt.cells, Pt.slots] at X118 lq118 yq118 zq118 st118 hQ118
      subst lq118 yq118 zq118
      obtain ⟨rfl, Nq118, K118, Fs118, Fh118, Fn118, Vs118, Vh118⟩ := hQ118
      have A2_119 := (A2_112.keep K118)
      have ZS118 : n0 ≤ T118.heap.size := Nat.le_trans ZS111 K118.1
      have KC118 : Keep h0 T118.heap [] := KC111.trans K118 (allS (Or.inr sz_b2) (allS (Or.inr sz_aS) (allS (Or.inr sz_aH) all0)))
      have N118 := Fr.app N111 Nq118
      refine OGo.steps st118 ?_
      show OGo p e below _ (T118.setTop (mkF m 79 #[.val (.long q1), .second, .val (.long q2), .second, .val (.long uu), .second, .val (.int p3), .val (.long s0), .second, .val (.long s1), .second, .val (.int (5 : Int32)), .val (.ref b2), .unset, .unset, .unset, .unset, .unset] []))
      refine OGo.step (fun uK kK => XS.iload X118.here hx rfl (hb hby at_79) rfl kK) ?_
      refine OGo.step (fun uK kK => XS.bipush X118.here hx rfl (hb hby at_81) kK) ?_
      show OGo p e below _ (T118.setTop (mkF m 83 #[.val (.long q1), .second, .val (.long q2), .second, .val (.long uu), .second, .val (.int p3), .val (.long s0), .second, .val (.long s1), .second, .val (.int (5 : Int32)), .val (.ref b2), .unset, .unset, .unset, .unset, .unset] [(.int (6 : Int32)), (.int (5 : Int32))]))
      have hc83 : ¬ ((5 : Int32) = (6 : Int32)) := by decide
      refine OGo.step (fun uK kK => XS.icmpYes X118.here hx rfl (pc0 := 83) (pc' := 93) rfl (hb hby at_83) rfl (feq hc83).2 (by decide) (by decide) kK) ?_
      show OGo p e below _ (T118.setTop (mkF m 93 #[.val (.long q1), .second, .val (.long q2), .second, .val (.long uu), .second, .val (.int p3), .val (.long s0), .second, .val (.long s1), .second, .val (.int (5 : Int32)), .val (.ref b2), .unset, .unset, .unset, .unset, .unset] []))
      refine OGo.step (fun uK kK => XS.iload X118.here hx rfl (hb hby at_93) rfl kK) ?_
      refine OGo.step (fun uK kK => XS.iconst X118.here hx rfl (hb hby at_95) kK) ?_
      show OGo p e below _ (T118.setTop (mkF m 96 #[.val (.long q1), .second, .val (.long q2), .second, .val (.long uu), .second, .val (.int p3), .val (.long s0), .second, .val (.long s1), .second, .val (.int (5 : Int32)), .val (.ref b2), .unset, .unset, .unset, .unset, .unset] [(.int (3 : Int32)), (.int (5 : Int32))]))
      have hc96 : ¬ ((5 : Int32) = (3 : Int32)) := by decide
      refine OGo.step (fun uK kK => XS.icmpNo X118.here hx rfl (hb hby at_96) rfl (feq hc96).1 kK) ?_
      show OGo p e below _ (T118.setTop (mkF m 99 #[.val (.long q1), .second, .val (.long q2), .second, .val (.long uu), .second, .val (.int p3), .val (.long s0), .second, .val (.long s1), .second, .val (.int (5 : Int32)), .val (.ref b2), .unset, .unset, .unset, .unset, .unset] []))
      refine OGo.step (fun uK kK => XS.iload X118.here hx rfl (hb hby at_99) rfl kK) ?_
      refine OGo.step (fun uK kK => XS.iconst X118.here hx rfl (hb hby at_101) kK) ?_
      show OGo p e below _ (T118.setTop (mkF m 102 #[.val (.long q1), .second, .val (.long q2), .second, .val (.long uu), .second, .val (.int p3), .val (.long s0), .second, .val (.long s1), .second, .val (.int (5 : Int32)), .val (.ref b2), .unset, .unset, .unset, .unset, .unset] [(.int (4 : Int32)), (.int (5 : Int32))]))
      have hc102 : ¬ ((5 : Int32) = (4 : Int32)) := by decide
      refine OGo.step (fun uK kK => XS.icmpNo X118.here hx rfl (hb hby at_102) rfl (feq hc102).1 kK) ?_
      show OGo p e below _ (T118.setTop (mkF m 105 #[.val (.long q1), .second, .val (.long q2), .second, .val (.long uu), .second, .val (.int p3), .val (.long s0), .second, .val (.long s1), .second, .val (.int (5 : Int32)), .val (.ref b2), .unset, .unset, .unset, .unset, .unset] []))
      refine OGo.step (fun uK kK => XS.iload X118.here hx rfl (hb hby at_105) rfl kK) ?_
      refine OGo.step (fun uK kK => XS.bipush X118.here hx rfl (hb hby at_107) kK) ?_
      show OGo p e below _ (T118.setTop (mkF m 109 #[.val (.long q1), .second, .val (.long q2), .second, .val (.long uu), .second, .val (.int p3), .val (.long s0), .second, .val (.long s1), .second, .val (.int (5 : Int32)), .val (.ref b2), .unset, .unset, .unset, .unset, .unset] [(.int (6 : Int32)), (.int (5 : Int32))]))
      have hc109 : ¬ ((5 : Int32) = (6 : Int32)) := by decide
      refine OGo.step (fun uK kK => XS.icmpNo X118.here hx rfl (hb hby at_109) rfl (feq hc109).1 kK) ?_
      show OGo p e below _ (T118.setTop (mkF m 112 #[.val (.long q1), .second, .val (.long q2), .second, .val (.long uu), .second, .val (.int p3), .val (.long s0), .second, .val (.long s1), .second, .val (.int (5 : Int32)), .val (.ref b2), .unset, .unset, .unset, .unset, .unset] []))
      refine OGo.step (fun uK kK => XS.iload X118.here hx rfl (hb hby at_112) rfl kK) ?_
      refine OGo.step (fun uK kK => XS.bipush X118.here hx rfl (hb hby at_114) kK) ?_
      show OGo p e below _ (T118.setTop (mkF m 116 #[.val (.long q1), .second, .val (.long q2), .second, .val (.long uu), .second, .val (.int p3), .val (.long s0), .second, .val (.long s1), .second, .val (.int (5 : Int32)), .val (.ref b2), .unset, .unset, .unset, .unset, .unset] [(.int (7 : Int32)), (.int (5 : Int32))]))
      have hc116 : ¬ ((5 : Int32) = (7 : Int32)) := by decide
      refine OGo.step (fun uK kK => XS.icmpYes X118.here hx rfl (pc0 := 116) (pc' := 127) rfl (hb hby at_116) rfl (feq hc116).2 (by decide) (by decide) kK) ?_
      show OGo p e below _ (T118.setTop (mkF m 127 #[.val (.long q1), .second, .val (.long q2), .second, .val (.long uu), .second, .val (.int p3), .val (.long s0), .second, .val (.long s1), .second, .val (.int (5 : Int32)), .val (.ref b2), .unset, .unset, .unset, .unset, .unset] []))
      refine OGo.step (fun uK kK => XS.iload X118.here hx rfl (hb hby at_127) rfl kK) ?_
      refine OGo.step (fun uK kK => XS.iconst X118.here hx rfl (hb hby at_129) kK) ?_
      show OGo p e below _ (T118.setTop (mkF m 130 #[.val (.long q1), .second, .val (.long q2), .second, .val (.long uu), .second, .val (.int p3), .val (.long s0), .second, .val (.long s1), .second, .val (.int (5 : Int32)), .val (.ref b2), .unset, .unset, .unset, .unset, .unset] [(.int (5 : Int32)), (.int (5 : Int32))]))
      have hc130 : (5 : Int32) = (5 : Int32) := by decide
      refine OGo.step (fun uK kK => XS.icmpYes X118.here hx rfl (pc0 := 130) (pc' := 140) rfl (hb hby at_130) rfl (teq hc130).1 (by decide) (by decide) kK) ?_
      show OGo p e below _ (T118.setTop (mkF m 140 #[.val (.long q1), .second, .val (.long q2), .second, .val (.long uu), .second, .val (.int p3), .val (.long s0), .second, .val (.long s1), .second, .val (.int (5 : Int32)), .val (.ref b2), .unset, .unset, .unset, .unset, .unset] []))
      refine OGo.step (fun uK kK => XS.aload X118.here hx rfl (hb hby at_140) rfl rfl kK) ?_
      refine OGo.step (fun uK kK => XS.lload X118.here hx rfl (hb hby at_142) rfl kK) ?_
      show OGo p e below _ (T118.setTop (mkF m 144 #[.val (.long q1), .second, .val (.long q2), .second, .val (.long uu), .second, .val (.int p3), .val (.long s0), .second, .val (.long s1), .second, .val (.int (5 : Int32)), .val (.ref b2), .unset, .unset, .unset, .unset, .unset] [(.long s1), (.ref b2)]))
      obtain ⟨cq125, kq125, q125a, q125b, q125c⟩ := isOf hZ rfl A2_119
      obtain ⟨_, _, ⟨T125, Lq125, kq_125, nq_125⟩, -, X125, ⟨Lc125, hQ125, lq125, yq125, zq125⟩, st125⟩ := X118.virtualBack hx (y := (⟨"com/example/graph_of_conflicts/graphofconflicts/engine/OpenSnapshots", "remove", "(J)Z"⟩ : MethodName)) (z := (⟨"com/example/graph_of_conflicts/graphofconflicts/engine/OpenSnapshots", "remove", "(J)Z"⟩ : MethodName)) hown (mvT hZ (hw _ (List.mem_of_getElem? (i := 52) rfl))) (mvT hZ (hw _ (List.mem_of_getElem? (i := 53) rfl))) (notFace_of_selects (args := #[]) (mvT hZ (hw _ (List.mem_of_getElem? (i := 55) rfl)))) (mvT hZ (hw _ (List.mem_of_getElem? (i := 55) rfl))) (mvT hZ (hw _ (List.mem_of_getElem? (i := 54) rfl))) (by decide) (backOf (W := 0) (rmr4 l Z a0 hw [] b2 aS kS s0 s1 (0 : Int64) (0 : Int64) (0 : Int64) (0 : Int64) (0 : Int64) (0 : Int64) aH kH (1 : Int32) (1 : Int32) (0 : Int32) (0 : Int32) (0 : Int32) (0 : Int32) (0 : Int32) (0 : Int32) T118.heap n0 ZS118 Fs118 Fh118 Fn118 Vs118 Vh118 A2_119 gn_b2 gS gH ne_b2_aS ne_b2_aH neSH hlt) hZ (hw _ (List.mem_of_getElem? (i := 56) rfl)) (hw _ (List.mem_of_getElem? (i := 7) rfl)) (by decide) (by decide)) q125a q125c (g := (mkF m 144 #[.val (.long q1), .second, .val (.long q2), .second, .val (.long uu), .second, .val (.int p3), .val (.long s0), .second, .val (.long s1), .second, .val (.int (5 : Int32)), .val (.ref b2), .unset, .unset, .unset, .unset, .unset] [(.long s1), (.ref b2)])) rfl (by rw [hml]; rfl) (Steps.refl _) (argsL := [(.long s1)]) (rest := []) (lenOf pd0_4 rfl) rfl (by show 2 * 0 + _ ≤ _; exact Nat.le_of_eq rfl) (hb hby at_144) (fun _ _ => ⟨rfl, rfl, (by decide : 3 + 0 ≤ _), (by decide : 19 + 0 ≤ _)⟩)
      dsimp only [Pt.U, Pt.locs, Pt.cells, Pt.slots] at X125 lq125 yq125 zq125 st125 hQ125
      subst lq125 yq125 zq125
      obtain ⟨rfl, Nq125, K125, Fs125, Fh125, Fn125, Vs125, Vh125⟩ := hQ125
      have A2_126 := (A2_119.keep K125)
      have ZS125 : n0 ≤ T125.heap.size := Nat.le_trans ZS118 K125.1
      have KC125 : Keep h0 T125.heap [] := KC118.trans K125 (allS (Or.inr sz_b2) (allS (Or.inr sz_aS) (allS (Or.inr sz_aH) all0)))
      have N125 := Fr.app N118 Nq125
      refine OGo.steps st125 ?_
      show OGo p e below _ (T125.setTop (mkF m 147 #[.val (.long q1), .second, .val (.long q2), .second, .val (.long uu), .second, .val (.int p3), .val (.long s0), .second, .val (.long s1), .second, .val (.int (5 : Int32)), .val (.ref b2), .unset, .unset, .unset, .unset, .unset] [(.int (1 : Int32))]))
      refine OGo.step (fun uK kK => XS.pop X125.here hx rfl (hb hby at_147) rfl rfl kK) ?_
      refine OGo.step (fun uK kK => XS.iload X125.here hx rfl (hb hby at_148) rfl kK) ?_
      refine OGo.step (fun uK kK => XS.iconst X125.here hx rfl (hb hby at_150) kK) ?_
      show OGo p e below _ (T125.setTop (mkF m 151 #[.val (.long q1), .second, .val (.long q2), .second, .val (.long uu), .second, .val (.int p3), .val (.long s0), .second, .val (.long s1), .second, .val (.int (5 : Int32)), .val (.ref b2), .unset, .unset, .unset, .unset, .unset] [(.int (1 : Int32)), (.int (5 : Int32))]))
      have hc151 : ¬ ((5 : Int32) = (1 : Int32)) := by decide
      refine OGo.step (fun uK kK => XS.icmpNo X125.here hx rfl (hb hby at_151) rfl (feq hc151).1 kK) ?_
      show OGo p e below _ (T125.setTop (mkF m 154 #[.val (.long q1), .second, .val (.long q2), .second, .val (.long uu), .second, .val (.int p3), .val (.long s0), .second, .val (.long s1), .second, .val (.int (5 : Int32)), .val (.ref b2), .unset, .unset, .unset, .unset, .unset] []))
      refine OGo.step (fun uK kK => XS.iload X125.here hx rfl (hb hby at_154) rfl kK) ?_
      refine OGo.step (fun uK kK => XS.iconst X125.here hx rfl (hb hby at_156) kK) ?_
      show OGo p e below _ (T125.setTop (mkF m 157 #[.val (.long q1), .second, .val (.long q2), .second, .val (.long uu), .second, .val (.int p3), .val (.long s0), .second, .val (.long s1), .second, .val (.int (5 : Int32)), .val (.ref b2), .unset, .unset, .unset, .unset, .unset] [(.int (2 : Int32)), (.int (5 : Int32))]))
      have hc157 : ¬ ((5 : Int32) = (2 : Int32)) := by decide
      refine OGo.step (fun uK kK => XS.icmpNo X125.here hx rfl (hb hby at_157) rfl (feq hc157).1 kK) ?_
      show OGo p e below _ (T125.setTop (mkF m 160 #[.val (.long q1), .second, .val (.long q2), .second, .val (.long uu), .second, .val (.int p3), .val (.long s0), .second, .val (.long s1), .second, .val (.int (5 : Int32)), .val (.ref b2), .unset, .unset, .unset, .unset, .unset] []))
      refine OGo.step (fun uK kK => XS.iload X125.here hx rfl (hb hby at_160) rfl kK) ?_
      refine OGo.step (fun uK kK => XS.iconst X125.here hx rfl (hb hby at_162) kK) ?_
      show OGo p e below _ (T125.setTop (mkF m 163 #[.val (.long q1), .second, .val (.long q2), .second, .val (.long uu), .second, .val (.int p3), .val (.long s0), .second, .val (.long s1), .second, .val (.int (5 : Int32)), .val (.ref b2), .unset, .unset, .unset, .unset, .unset] [(.int (3 : Int32)), (.int (5 : Int32))]))
      have hc163 : ¬ ((5 : Int32) = (3 : Int32)) := by decide
      refine OGo.step (fun uK kK => XS.icmpNo X125.here hx rfl (hb hby at_163) rfl (feq hc163).1 kK) ?_
      show OGo p e below _ (T125.setTop (mkF m 166 #[.val (.long q1), .second, .val (.long q2), .second, .val (.long uu), .second, .val (.int p3), .val (.long s0), .second, .val (.long s1), .second, .val (.int (5 : Int32)), .val (.ref b2), .unset, .unset, .unset, .unset, .unset] []))
      refine OGo.step (fun uK kK => XS.iload X125.here hx rfl (hb hby at_166) rfl kK) ?_
      refine OGo.step (fun uK kK => XS.iconst X125.here hx rfl (hb hby at_168) kK) ?_
      show OGo p e below _ (T125.setTop (mkF m 169 #[.val (.long q1), .second, .val (.long q2), .second, .val (.long uu), .second, .val (.int p3), .val (.long s0), .second, .val (.long s1), .second, .val (.int (5 : Int32)), .val (.ref b2), .unset, .unset, .unset, .unset, .unset] [(.int (5 : Int32)), (.int (5 : Int32))]))
      have hc169 : (5 : Int32) = (5 : Int32) := by decide
      refine OGo.step (fun uK kK => XS.icmpYes X125.here hx rfl (pc0 := 169) (pc' := 179) rfl (hb hby at_169) rfl (teq hc169).1 (by decide) (by decide) kK) ?_
      show OGo p e below _ (T125.setTop (mkF m 179 #[.val (.long q1), .second, .val (.long q2), .second, .val (.long uu), .second, .val (.int p3), .val (.long s0), .second, .val (.long s1), .second, .val (.int (5 : Int32)), .val (.ref b2), .unset, .unset, .unset, .unset, .unset] []))
      refine OGo.step (fun uK kK => XS.iconst X125.here hx rfl (hb hby at_179) kK) ?_
      show OGo p e below _ (T125.setTop (mkF m 180 #[.val (.long q1), .second, .val (.long q2), .second, .val (.long uu), .second, .val (.int p3), .val (.long s0), .second, .val (.long s1), .second, .val (.int (5 : Int32)), .val (.ref b2), .unset, .unset, .unset, .unset, .unset] [(.int (1 : Int32))]))
      refine OGo.step (fun uK kK => XS.goto X125.here hx rfl (pc0 := 180) (pc' := 184) rfl (hb hby at_180) (by decide) (by decide) kK) ?_
      show OGo p e below _ (T125.setTop (mkF m 184 #[.val (.long q1), .second, .val (.long q2), .second, .val (.long uu), .second, .val (.int p3), .val (.long s0), .second, .val (.long s1), .second, .val (.int (5 : Int32)), .val (.ref b2), .unset, .unset, .unset, .unset, .unset] [(.int (1 : Int32))]))
      refine OGo.step (fun uK kK => XS.istore X125.here hx rfl (hb hby at_184) rfl (l' := #[.val (.long q1), .second, .val (.long q2), .second, .val (.long uu), .second, .val (.int p3), .val (.long s0), .second, .val (.long s1), .second, .val (.int (5 : Int32)), .val (.ref b2), .val (.int (1 : Int32)), .unset, .unset, .unset, .unset]) rfl kK) ?_
      refine OGo.step (fun uK kK => XS.iload X125.here hx rfl (hb hby at_186) rfl kK) ?_
      refine OGo.step (fun uK kK => XS.iconst X125.here hx rfl (hb hby at_188) kK) ?_
      show OGo p e below _ (T125.setTop (mkF m 189 #[.val (.long q1), .second, .val (.long q2), .second, .val (.long uu), .second, .val (.int p3), .val (.long s0), .second, .val (.long s1), .second, .val (.int (5 : Int32)), .val (.ref b2), .val (.int (1 : Int32)), .unset, .unset, .unset, .unset] [(.int (3 : Int32)), (.int (5 : Int32))]))
      have hc189 : ¬ ((5 : Int32) = (3 : Int32)) := by decide
      refine OGo.step (fun uK kK => XS.icmpYes X125.here hx rfl (pc0 := 189) (pc' := 197) rfl (hb hby at_189) rfl (feq hc189).2 (by decide) (by decide) kK) ?_
      show OGo p e below _ (T125.setTop (mkF m 197 #[.val (.long q1), .second, .val (.long q2), .second, .val (.long uu), .second, .val (.int p3), .val (.long s0), .second, .val (.long s1), .second, .val (.int (5 : Int32)), .val (.ref b2), .val (.int (1 : Int32)), .unset, .unset, .unset, .unset] []))
      refine OGo.step (fun uK kK => XS.lload X125.here hx rfl (hb hby at_197) rfl kK) ?_
      show OGo p e below _ (T125.setTop (mkF m 199 #[.val (.long q1), .second, .val (.long q2), .second, .val (.long uu), .second, .val (.int p3), .val (.long s0), .second, .val (.long s1), .second, .val (.int (5 : Int32)), .val (.ref b2), .val (.int (1 : Int32)), .unset, .unset, .unset, .unset] [(.long s0)]))
      refine OGo.step (fun uK kK => XS.lstore X125.here hx rfl (hb hby at_199) rfl (l' := #[.val (.long q1), .second, .val (.long q2), .second, .val (.long uu), .second, .val (.int p3), .val (.long s0), .second, .val (.long s1), .second, .val (.int (5 : Int32)), .val (.ref b2), .val (.int (1 : Int32)), .val (.long s0), .second, .unset, .unset]) rfl kK) ?_
      refine OGo.step (fun uK kK => XS.iload X125.here hx rfl (hb hby at_201) rfl kK) ?_
      show OGo p e below _ (T125.setTop (mkF m 203 #[.val (.long q1), .second, .val (.long q2), .second, .val (.long uu), .second, .val (.int p3), .val (.long s0), .second, .val (.long s1), .second, .val (.int (5 : Int32)), .val (.ref b2), .val (.int (1 : Int32)), .val (.long s0), .second, .unset, .unset] [(.int (1 : Int32))]))
      have hc203 : ¬ ((1 : Int32) = (0 : Int32)) := by decide
      refine OGo.step (fun uK kK => XS.ifYes X125.here hx rfl (pc0 := 203) (pc' := 214) rfl (hb hby at_203) rfl ((if0 _ _).trans (feq hc203).2) (by decide) (by decide) kK) ?_
      show OGo p e below _ (T125.setTop (mkF m 214 #[.val (.long q1), .second, .val (.long q2), .second, .val (.long uu), .second, .val (.int p3), .val (.long s0), .second, .val (.long s1), .second, .val (.int (5 : Int32)), .val (.ref b2), .val (.int (1 : Int32)), .val (.long s0), .second, .unset, .unset] []))
      refine OGo.step (fun uK kK => XS.lload X125.here hx rfl (hb hby at_214) rfl kK) ?_
      refine OGo.step (fun uK kK => XS.lload X125.here hx rfl (hb hby at_216) rfl kK) ?_
      show OGo p e below _ (T125.setTop (mkF m 218 #[.val (.long q1), .second, .val (.long q2), .second, .val (.long uu), .second, .val (.int p3), .val (.long s0), .second, .val (.long s1), .second, .val (.int (5 : Int32)), .val (.ref b2), .val (.int (1 : Int32)), .val (.long s0), .second, .unset, .unset] [(.long uu), (.long s0)]))
      refine OGo.step (fun uK kK => XS.lcmp X125.here hx rfl (hb hby at_218) rfl kK) ?_
      show OGo p e below _ (T125.setTop (mkF m 219 #[.val (.long q1), .second, .val (.long q2), .second, .val (.long uu), .second, .val (.int p3), .val (.long s0), .second, .val (.long s1), .second, .val (.int (5 : Int32)), .val (.ref b2), .val (.int (1 : Int32)), .val (.long s0), .second, .unset, .unset] [(.int (lcmpW s0 uu))]))
      refine OGo.step (t' := T125.setTop (mkF m 234 #[.val (.long q1), .second, .val (.long q2), .second, .val (.long uu), .second, .val (.int p3), .val (.long s0), .second, .val (.long s1), .second, .val (.int (5 : Int32)), .val (.ref b2), .val (.int (1 : Int32)), .val (.long s0), .second, .val (.long (if s0 < uu then s0 else (-1 : Int64))), .second] [])) (fun uK kK => ?_) ?_
      · show Steps p.tables e below (T125.setTop (mkF m 219 #[.val (.long q1), .second, .val (.long q2), .second, .val (.long uu), .second, .val (.int p3), .val (.long s0), .second, .val (.long s1), .second, .val (.int (5 : Int32)), .val (.ref b2), .val (.int (1 : Int32)), .val (.long s0), .second, .unset, .unset] [(.int (lcmpW s0 uu))])) _
        by_cases hm219_132 : s0 < uu
        · try rw [if_pos hm219_132] at kK
          refine XS.ifNo X125.here hx rfl (hb hby at_219) rfl ((if0 _ _).trans (tlt ((lw_lt _ _).mpr hm219_132)).2.1) ?_
          refine XS.lload X125.here hx rfl (hb hby at_222) rfl ?_
          show Steps p.tables e below (T125.setTop (mkF m 224 #[.val (.long q1), .second, .val (.long q2), .second, .val (.long uu), .second, .val (.int p3), .val (.long s0), .second, .val (.long s1), .second, .val (.int (5 : Int32)), .val (.ref b2), .val (.int (1 : Int32)), .val (.long s0), .second, .unset, .unset] [(.long s0)])) _
          refine XS.lstore X125.here hx rfl (hb hby at_224) rfl (l' := #[.val (.long q1), .second, .val (.long q2), .second, .val (.long uu), .second, .val (.int p3), .val (.long s0), .second, .val (.long s1), .second, .val (.int (5 : Int32)), .val (.ref b2), .val (.int (1 : Int32)), .val (.long s0), .second, .val (.long s0), .second]) rfl ?_
          show Steps p.tables e below (T125.setTop (mkF m 226 #[.val (.long q1), .second, .val (.long q2), .second, .val (.long uu), .second, .val (.int p3), .val (.long s0), .second, .val (.long s1), .second, .val (.int (5 : Int32)), .val (.ref b2), .val (.int (1 : Int32)), .val (.long s0), .second, .val (.long s0), .second] [])) _
          refine XS.goto X125.here hx rfl (pc0 := 226) (pc' := 234) rfl (hb hby at_226) (by decide) (by decide) ?_
          show Steps p.tables e below (T125.setTop (mkF m 234 #[.val (.long q1), .second, .val (.long q2), .second, .val (.long uu), .second, .val (.int p3), .val (.long s0), .second, .val (.long s1), .second, .val (.int (5 : Int32)), .val (.ref b2), .val (.int (1 : Int32)), .val (.long s0), .second, .val (.long s0), .second] [])) _
          exact kK
        · try rw [if_neg hm219_132] at kK
          refine XS.ifYes X125.here hx rfl (pc0 := 219) (pc' := 229) rfl (hb hby at_219) rfl ((if0 _ _).trans (flt (fun q => hm219_132 ((lw_lt _ _).mp q))).2.1) (by decide) (by decide) ?_
          refine X125.ldc2J hx hown (mvT hZ (hw _ (List.mem_of_getElem? (i := 45) rfl))) rfl (hb hby at_229) ?_
          show Steps p.tables e below (T125.setTop (mkF m 232 #[.val (.long q1), .second, .val (.long q2), .second, .val (.long uu), .second, .val (.int p3), .val (.long s0), .second, .val (.long s1), .second, .val (.int (5 : Int32)), .val (.ref b2), .val (.int (1 : Int32)), .val (.long s0), .second, .unset, .unset] [(.long (-1 : Int64))])) _
          refine XS.lstore X125.here hx rfl (hb hby at_232) rfl (l' := #[.val (.long q1), .second, .val (.long q2), .second, .val (.long uu), .second, .val (.int p3), .val (.long s0), .second, .val (.long s1), .second, .val (.int (5 : Int32)), .val (.ref b2), .val (.int (1 : Int32)), .val (.long s0), .second, .val (.long (-1 : Int64)), .second]) rfl ?_
          show Steps p.tables e below (T125.setTop (mkF m 234 #[.val (.long q1), .second, .val (.long q2), .second, .val (.long uu), .second, .val (.int p3), .val (.long s0), .second, .val (.long s1), .second, .val (.int (5 : Int32)), .val (.ref b2), .val (.int (1 : Int32)), .val (.long s0), .second, .val (.long (-1 : Int64)), .second] [])) _
          exact kK
      show OGo p e below _ (T125.setTop (mkF m 234 #[.val (.long q1), .second, .val (.long q2), .second, .val (.long uu), .second, .val (.int p3), .val (.long s0), .second, .val (.long s1), .second, .val (.int (5 : Int32)), .val (.ref b2), .val (.int (1 : Int32)), .val (.long s0), .second, .val (.long (if s0 < uu then s0 else (-1 : Int64))), .second] []))
      refine OGo.step (fun uK kK => XS.aload X125.here hx rfl (hb hby at_234) rfl rfl kK) ?_
      refine OGo.step (fun uK kK => XS.lload X125.here hx rfl (hb hby at_236) rfl kK) ?_
      show OGo p e below _ (T125.setTop (mkF m 238 #[.val (.long q1), .second, .val (.long q2), .second, .val (.long uu), .second, .val (.int p3), .val (.long s0), .second, .val (.long s1), .second, .val (.int (5 : Int32)), .val (.ref b2), .val (.int (1 : Int32)), .val (.long s0), .second, .val (.long (if s0 < uu then s0 else (-1 : Int64))), .second] [(.long uu), (.ref b2)]))
      obtain ⟨cq133, kq133, q133a, q133b, q133c⟩ := isOf hZ rfl A2_126
      obtain ⟨_, _, ⟨T133, Lq133, kq_133, nq_133⟩, -, X133, ⟨Lc133, hQ133, lq133, yq133, zq133⟩, st133⟩ := X125.virtualBack hx (y := (⟨"com/example/graph_of_conflicts/graphofconflicts/engine/OpenSnapshots", "earliestBefore", "(J)J"⟩ : MethodName)) (z := (⟨"com/example/graph_of_conflicts/graphofconflicts/engine/OpenSnapshots", "earliestBefore", "(J)J"⟩ : MethodName)) hown (mvT hZ (hw _ (List.mem_of_getElem? (i := 46) rfl))) (mvT hZ (hw _ (List.mem_of_getElem? (i := 47) rfl))) (notFace_of_selects (args := #[]) (mvT hZ (hw _ (List.mem_of_getElem? (i := 49) rfl)))) (mvT hZ (hw _ (List.mem_of_getElem? (i := 49) rfl))) (mvT hZ (hw _ (List.mem_of_getElem? (i := 48) rfl))) (by decide) (backOf (W := 0) (rme1 l Z a0 hw [] b2 uu aS kS s0 s1 (0 : Int64) (0 : Int64) (0 : Int64) (0 : Int64) (0 : Int64) (0 : Int64) T125.heap n0 ZS125 Fs125 Fn125 Vs125) hZ (hw _ (List.mem_of_getElem? (i := 50) rfl)) (hw _ (List.mem_of_getElem? (i := 7) rfl)) (by decide) (by decide)) q133a q133c (g := (mkF m 238 #[.val (.long q1), .second, .val (.long q2), .second, .val (.long uu), .second, .val (.int p3), .val (.long s0), .second, .val (.long s1), .second, .val (.int (5 : Int32)), .val (.ref b2), .val (.int (1 : Int32)), .val (.long s0), .second, .val (.long (if s0 < uu then s0 else (-1 : Int64))), .second] [(.long uu), (.ref b2)])) rfl (by rw [hml]; rfl) (Steps.refl _) (argsL := [(.long uu)]) (rest := []) (lenOf pd0_2 rfl) rfl (by show 2 * 0 + _ ≤ _; exact Nat.le_of_eq rfl) (hb hby at_238) (fun _ _ => ⟨rfl, rfl, (by decide : 3 + 0 ≤ _), (by decide : 19 + 0 ≤ _)⟩)
      dsimp only [Pt.U, Pt.locs, Pt.cells, Pt.slots] at X133 lq133 yq133 zq133 st133 hQ133
      subst lq133 yq133 zq133
      obtain ⟨rfl, Nq133, e133⟩ := hQ133
      have N133 := Fr.app N125 Nq133
      refine OGo.steps st133 ?_
      show OGo p e below _ (T133.setTop (mkF m 241 #[.val (.long q1), .second, .val (.long q2), .second, .val (.long uu), .second, .val (.int p3), .val (.long s0), .second, .val (.long s1), .second, .val (.int (5 : Int32)), .val (.ref b2), .val (.int (1 : Int32)), .val (.long s0), .second, .val (.long (if s0 < uu then s0 else (-1 : Int64))), .second] [(.long (if s0 < uu then s0 else (-1 : Int64)))]))
      refine OGo.step (fun uK kK => XS.lload X133.here hx rfl (hb hby at_241) rfl kK) ?_
      show OGo p e below _ (T133.setTop (mkF m 243 #[.val (.long q1), .second, .val (.long q2), .second, .val (.long uu), .second, .val (.int p3), .val (.long s0), .second, .val (.long s1), .second, .val (.int (5 : Int32)), .val (.ref b2), .val (.int (1 : Int32)), .val (.long s0), .second, .val (.long (if s0 < uu then s0 else (-1 : Int64))), .second] [(.long (if s0 < uu then s0 else (-1 : Int64))), (.long (if s0 < uu then s0 else (-1 : Int64)))]))
      refine OGo.step (fun uK kK => XS.lcmp X133.here hx rfl (hb hby at_243) rfl kK) ?_
      show OGo p e below _ (T133.setTop (mkF m 244 #[.val (.long q1), .second, .val (.long q2), .second, .val (.long uu), .second, .val (.int p3), .val (.long s0), .second, .val (.long s1), .second, .val (.int (5 : Int32)), .val (.ref b2), .val (.int (1 : Int32)), .val (.long s0), .second, .val (.long (if s0 < uu then s0 else (-1 : Int64))), .second] [(.int (lcmpW (if s0 < uu then s0 else (-1 : Int64)) (if s0 < uu then s0 else (-1 : Int64))))]))
      have hc244 : (if s0 < uu then s0 else (-1 : Int64)) = (if s0 < uu then s0 else (-1 : Int64)) := rfl
      refine OGo.step (fun uK kK => XS.ifNo X133.here hx rfl (hb hby at_244) rfl ((if0 _ _).trans (teq ((lw_eq _ _).mpr hc244)).2) kK) ?_
      show OGo p e below _ (T133.setTop (mkF m 247 #[.val (.long q1), .second, .val (.long q2), .second, .val (.long uu), .second, .val (.int p3), .val (.long s0), .second, .val (.long s1), .second, .val (.int (5 : Int32)), .val (.ref b2), .val (.int (1 : Int32)), .val (.long s0), .second, .val (.long (if s0 < uu then s0 else (-1 : Int64))), .second] []))
      refine OGo.step (fun uK kK => XS.iconst X133.here hx rfl (hb hby at_247) kK) ?_
      show OGo p e below _ (T133.setTop (mkF m 248 #[.val (.long q1), .second, .val (.long q2), .second, .val (.long uu), .second, .val (.int p3), .val (.long s0), .second, .val (.long s1), .second, .val (.int (5 : Int32)), .val (.ref b2), .val (.int (1 : Int32)), .val (.long s0), .second, .val (.long (if s0 < uu then s0 else (-1 : Int64))), .second] [(.int (1 : Int32))]))
      refine OGo.step (fun uK kK => XS.goto X133.here hx rfl (pc0 := 248) (pc' := 252) rfl (hb hby at_248) (by decide) (by decide) kK) ?_
      show OGo p e below _ (T133.setTop (mkF m 252 #[.val (.long q1), .second, .val (.long q2), .second, .val (.long uu), .second, .val (.int p3), .val (.long s0), .second, .val (.long s1), .second, .val (.int (5 : Int32)), .val (.ref b2), .val (.int (1 : Int32)), .val (.long s0), .second, .val (.long (if s0 < uu then s0 else (-1 : Int64))), .second] [(.int (1 : Int32))]))
      exact OGo.retN X133 hx Bd.notSynchronized (t := .boolean) Bd.returns (by simp) (hb hby at_252) (by decide) (by decide) (by show Q0 Z q1 q2 uu p3 h0 n0 _ T133.heap _; rw [e133]; exact ⟨rfl, N133⟩)
    · skip
      replace heq := heq.symm
      subst heq
      show OGo p e below _ (T3.setTop (mkF m 35 #[.val (.long q1), .second, .val (.long q2), .second, .val (.long uu), .second, .val (.int p3), .val (.long s0), .second, .val (.long s0), .second, .val (.int (5 : Int32)), .val (.ref b2), .unset, .unset, .unset, .unset, .unset] []))
      refine OGo.step (fun uK kK => XS.iload X3.here hx rfl (hb hby at_35) rfl kK) ?_
      show OGo p e below _ (T3.setTop (mkF m 37 #[.val (.long q1), .second, .val (.long q2), .second, .val (.long uu), .second, .val (.int p3), .val (.long s0), .second, .val (.long s0), .second, .val (.int (5 : Int32)), .val (.ref b2), .unset, .unset, .unset, .unset, .unset] [(.int (5 : Int32))]))
      have hc37 : ¬ ((5 : Int32) = (0 : Int32)) := by decide
      refine OGo.step (fun uK kK => XS.ifNo X3.here hx rfl (hb hby at_37) rfl ((if0 _ _).trans (feq hc37).1) kK) ?_
      show OGo p e below _ (T3.setTop (mkF m 40 #[.val (.long q1), .second, .val (.long q2), .second, .val (.long uu), .second, .val (.int p3), .val (.long s0), .second, .val (.long s0), .second, .val (.int (5 : Int32)), .val (.ref b2), .unset, .unset, .unset, .unset, .unset] []))
      refine OGo.step (fun uK kK => XS.aload X3.here hx rfl (hb hby at_40) rfl rfl kK) ?_
      refine OGo.step (fun uK kK => XS.lload X3.here hx rfl (hb hby at_42) rfl kK) ?_
      show OGo p e below _ (T3.setTop (mkF m 44 #[.val (.long q1), .second, .val (.long q2), .second, .val (.long uu), .second, .val (.int p3), .val (.long s0), .second, .val (.long s0), .second, .val (.int (5 : Int32)), .val (.ref b2), .unset, .unset, .unset, .unset, .unset] [(.long s0), (.ref b2)]))
      obtain ⟨cq134, kq134, q134a, q134b, q134c⟩ := isOf hZ rfl A2_4
      obtain ⟨_, _, ⟨T134, Lq134, kq_134, nq_134⟩, -, X134, ⟨Lc134, hQ134, lq134, yq134, zq134⟩, st134⟩ := X3.virtualBack hx (y := (⟨"com/example/graph_of_conflicts/graphofconflicts/engine/OpenSnapshots", "add", "(J)V"⟩ : MethodName)) (z := (⟨"com/example/graph_of_conflicts/graphofconflicts/engine/OpenSnapshots", "add", "(J)V"⟩ : MethodName)) hown (mvT hZ (hw _ (List.mem_of_getElem? (i := 20) rfl))) (mvT hZ (hw _ (List.mem_of_getElem? (i := 21) rfl))) (notFace_of_selects (args := #[]) (mvT hZ (hw _ (List.mem_of_getElem? (i := 23) rfl)))) (mvT hZ (hw _ (List.mem_of_getElem? (i := 23) rfl))) (mvT hZ (hw _ (List.mem_of_getElem? (i := 22) rfl))) (by decide) (backOf (W := 0) (rma0 l Z a0 hw [] b2 aS kS (0 : Int64) (0 : Int64) (0 : Int64) (0 : Int64) (0 : Int64) (0 : Int64) (0 : Int64) (0 : Int64) aH kH (0 : Int32) (0 : Int32) (0 : Int32) (0 : Int32) (0 : Int32) (0 : Int32) (0 : Int32) (0 : Int32) s0 T3.heap n0 ZS3 Fs3 Fh3 Fn3 Vs3 Vh3 A2_4 gn_b2 gS gH ne_b2_aS ne_b2_aH neSH) hZ (hw _ (List.mem_of_getElem? (i := 24) rfl)) (hw _ (List.mem_of_getElem? (i := 7) rfl)) (by decide) (by decide)) q134a q134c (g := (mkF m 44 #[.val (.long q1), .second, .val (.long q2), .second, .val (.long uu), .second, .val (.int p3), .val (.long s0), .second, .val (.long s0), .second, .val (.int (5 : Int32)), .val (.ref b2), .unset, .unset, .unset, .unset, .unset] [(.long s0), (.ref b2)])) rfl (by rw [hml]; rfl) (Steps.refl _) (argsL := [(.long s0)]) (rest := []) (lenOf pd0_3 rfl) rfl (by show 2 * 0 + _ ≤ _; exact Nat.le_of_eq rfl) (hb hby at_44) (fun _ _ => ⟨rfl, rfl, (by decide : 3 + 0 ≤ _), (by decide : 19 + 0 ≤ _)⟩)
      dsimp only [Pt.U, Pt.locs, Pt.cells, Pt.slots] at X134 lq134 yq134 zq134 st134 hQ134
      subst lq134 yq134 zq134
      obtain ⟨rfl, Nq134, K134, Fs134, Fh134, Fn134, Vs134, Vh134⟩ := hQ134
      have A2_135 := (A2_4.keep K134)
      have ZS134 : n0 ≤ T134.heap.size := Nat.le_trans ZS3 K134.1
      have KC134 : Keep h0 T134.heap [] := KC3.trans K134 (allS (Or.inr sz_b2) (allS (Or.inr sz_aS) (allS (Or.inr sz_aH) all0)))
      have N134 := Fr.app N3 Nq134
      refine OGo.steps st134 ?_
      show OGo p e below _ (T134.setTop (mkF m 47 #[.val (.long q1), .second, .val (.long q2), .second, .val (.long uu), .second, .val (.int p3), .val (.long s0), .second, .val (.long s0), .second, .val (.int (5 : Int32)), .val (.ref b2), .unset, .unset, .unset, .unset, .unset] []))
      refine OGo.step (fun uK kK => XS.iload X134.here hx rfl (hb hby at_47) rfl kK) ?_
      refine OGo.step (fun uK kK => XS.iconst X134.here hx rfl (hb hby at_49) kK) ?_
      show OGo p e below _ (T134.setTop (mkF m 50 #[.val (.long q1), .second, .val (.long q2), .second, .val (.long uu), .second, .val (.int p3), .val (.long s0), .second, .val (.long s0), .second, .val (.int (5 : Int32)), .val (.ref b2), .unset, .unset, .unset, .unset, .unset] [(.int (2 : Int32)), (.int (5 : Int32))]))
      have hc50 : ¬ ((5 : Int32) = (2 : Int32)) := by decide
      refine OGo.step (fun uK kK => XS.icmpNo X134.here hx rfl (hb hby at_50) rfl (feq hc50).1 kK) ?_
      show OGo p e below _ (T134.setTop (mkF m 53 #[.val (.long q1), .second, .val (.long q2), .second, .val (.long uu), .second, .val (.int p3), .val (.long s0), .second, .val (.long s0), .second, .val (.int (5 : Int32)), .val (.ref b2), .unset, .unset, .unset, .unset, .unset] []))
      refine OGo.step (fun uK kK => XS.iload X134.here hx rfl (hb hby at_53) rfl kK) ?_
      refine OGo.step (fun uK kK => XS.iconst X134.here hx rfl (hb hby at_55) kK) ?_
      show OGo p e below _ (T134.setTop (mkF m 56 #[.val (.long q1), .second, .val (.long q2), .second, .val (.long uu), .second, .val (.int p3), .val (.long s0), .second, .val (.long s0), .second, .val (.int (5 : Int32)), .val (.ref b2), .unset, .unset, .unset, .unset, .unset] [(.int (3 : Int32)), (.int (5 : Int32))]))
      have hc56 : ¬ ((5 : Int32) = (3 : Int32)) := by decide
      refine OGo.step (fun uK kK => XS.icmpNo X134.here hx rfl (hb hby at_56) rfl (feq hc56).1 kK) ?_
      show OGo p e below _ (T134.setTop (mkF m 59 #[.val (.long q1), .second, .val (.long q2), .second, .val (.long uu), .second, .val (.int p3), .val (.long s0), .second, .val (.long s0), .second, .val (.int (5 : Int32)), .val (.ref b2), .unset, .unset, .unset, .unset, .unset] []))
      refine OGo.step (fun uK kK => XS.iload X134.here hx rfl (hb hby at_59) rfl kK) ?_
      refine OGo.step (fun uK kK => XS.iconst X134.here hx rfl (hb hby at_61) kK) ?_
      show OGo p e below _ (T134.setTop (mkF m 62 #[.val (.long q1), .second, .val (.long q2), .second, .val (.long uu), .second, .val (.int p3), .val (.long s0), .second, .val (.long s0), .second, .val (.int (5 : Int32)), .val (.ref b2), .unset, .unset, .unset, .unset, .unset] [(.int (5 : Int32)), (.int (5 : Int32))]))
      have hc62 : (5 : Int32) = (5 : Int32) := by decide
      refine OGo.step (fun uK kK => XS.icmpYes X134.here hx rfl (pc0 := 62) (pc' := 72) rfl (hb hby at_62) rfl (teq hc62).1 (by decide) (by decide) kK) ?_
      show OGo p e below _ (T134.setTop (mkF m 72 #[.val (.long q1), .second, .val (.long q2), .second, .val (.long uu), .second, .val (.int p3), .val (.long s0), .second, .val (.long s0), .second, .val (.int (5 : Int32)), .val (.ref b2), .unset, .unset, .unset, .unset, .unset] []))
      refine OGo.step (fun uK kK => XS.aload X134.here hx rfl (hb hby at_72) rfl rfl kK) ?_
      refine OGo.step (fun uK kK => XS.lload X134.here hx rfl (hb hby at_74) rfl kK) ?_
      show OGo p e below _ (T134.setTop (mkF m 76 #[.val (.long q1), .second, .val (.long q2), .second, .val (.long uu), .second, .val (.int p3), .val (.long s0), .second, .val (.long s0), .second, .val (.int (5 : Int32)), .val (.ref b2), .unset, .unset, .unset, .unset, .unset] [(.long s0), (.ref b2)]))
      obtain ⟨cq141, kq141, q141a, q141b, q141c⟩ := isOf hZ rfl A2_135
      obtain ⟨_, _, ⟨T141, Lq141, kq_141, nq_141⟩, -, X141, ⟨Lc141, hQ141, lq141, yq141, zq141⟩, st141⟩ := X134.virtualBack hx (y := (⟨"com/example/graph_of_conflicts/graphofconflicts/engine/OpenSnapshots", "add", "(J)V"⟩ : MethodName)) (z := (⟨"com/example/graph_of_conflicts/graphofconflicts/engine/OpenSnapshots", "add", "(J)V"⟩ : MethodName)) hown (mvT hZ (hw _ (List.mem_of_getElem? (i := 20) rfl))) (mvT hZ (hw _ (List.mem_of_getElem? (i := 21) rfl))) (notFace_of_selects (args := #[]) (mvT hZ (hw _ (List.mem_of_getElem? (i := 23) rfl)))) (mvT hZ (hw _ (List.mem_of_getElem? (i := 23) rfl))) (mvT hZ (hw _ (List.mem_of_getElem? (i := 22) rfl))) (by decide) (backOf (W := 0) (rmae l Z a0 hw [] b2 aS kS s0 (0 : Int64) (0 : Int64) (0 : Int64) (0 : Int64) (0 : Int64) (0 : Int64) (0 : Int64) aH kH (1 : Int32) (0 : Int32) (0 : Int32) (0 : Int32) (0 : Int32) (0 : Int32) (0 : Int32) (0 : Int32) T134.heap n0 ZS134 Fs134 Fh134 Fn134 Vs134 Vh134 A2_135 gn_b2 gS gH ne_b2_aS ne_b2_aH neSH) hZ (hw _ (List.mem_of_getElem? (i := 24) rfl)) (hw _ (List.mem_of_getElem? (i := 7) rfl)) (by decide) (by decide)) q141a q141c (g := (mkF m 76 #[.val (.long q1), .second, .val (.long q2), .second, .val (.long uu), .second, .val (.int p3), .val (.long s0), .second, .val (.long s0), .second, .val (.int (5 : Int32)), .val (.ref b2), .unset, .unset, .unset, .unset, .unset] [(.long s0), (.ref b2)])) rfl (by rw [hml]; rfl) (Steps.refl _) (argsL := [(.long s0)]) (rest := []) (lenOf pd0_3 rfl) rfl (by show 2 * 0 + _ ≤ _; exact Nat.le_of_eq rfl) (hb hby at_76) (fun _ _ => ⟨rfl, rfl, (by decide : 3 + 0 ≤ _), (by decide : 19 + 0 ≤ _)⟩)
      dsimp only [Pt.U, Pt.locs, Pt.cells, Pt.slots] at X141 lq141 yq141 zq141 st141 hQ141
      subst lq141 yq141 zq141
      obtain ⟨rfl, Nq141, K141, Fs141, Fh141, Fn141, Vs141, Vh141⟩ := hQ141
      have A2_142 := (A2_135.keep K141)
      have ZS141 : n0 ≤ T141.heap.size := Nat.le_trans ZS134 K141.1
      have KC141 : Keep h0 T141.heap [] := KC134.trans K141 (allS (Or.inr sz_b2) (allS (Or.inr sz_aS) (allS (Or.inr sz_aH) all0)))
      have N141 := Fr.app N134 Nq141
      refine OGo.steps st141 ?_
      show OGo p e below _ (T141.setTop (mkF m 79 #[.val (.long q1), .second, .val (.long q2), .second, .val (.long uu), .second, .val (.int p3), .val (.long s0), .second, .val (.long s0), .second, .val (.int (5 : Int32)), .val (.ref b2), .unset, .unset, .unset, .unset, .unset] []))
      refine OGo.step (fun uK kK => XS.iload X141.here hx rfl (hb hby at_79) rfl kK) ?_
      refine OGo.step (fun uK kK => XS.bipush X141.here hx rfl (hb hby at_81) kK) ?_
      show OGo p e below _ (T141.setTop (mkF m 83 #[.val (.long q1), .second, .val (.long q2), .second, .val (.long uu), .second, .val (.int p3), .val (.long s0), .second, .val (.long s0), .second, .val (.int (5 : Int32)), .val (.ref b2), .unset, .unset, .unset, .unset, .unset] [(.int (6 : Int32)), (.int (5 : Int32))]))
      have hc83 : ¬ ((5 : Int32) = (6 : Int32)) := by decide
      refine OGo.step (fun uK kK => XS.icmpYes X141.here hx rfl (pc0 := 83) (pc' := 93) rfl (hb hby at_83) rfl (feq hc83).2 (by decide) (by decide) kK) ?_
      show OGo p e below _ (T141.setTop (mkF m 93 #[.val (.long q1), .second, .val (.long q2), .second, .val (.long uu), .second, .val (.int p3), .val (.long s0), .second, .val (.long s0), .second, .val (.int (5 : Int32)), .val (.ref b2), .unset, .unset, .unset, .unset, .unset] []))
      refine OGo.step (fun uK kK => XS.iload X141.here hx rfl (hb hby at_93) rfl kK) ?_
      refine OGo.step (fun uK kK => XS.iconst X141.here hx rfl (hb hby at_95) kK) ?_
      show OGo p e below _ (T141.setTop (mkF m 96 #[.val (.long q1), .second, .val (.long q2), .second, .val (.long uu), .second, .val (.int p3), .val (.long s0), .second, .val (.long s0), .second, .val (.int (5 : Int32)), .val (.ref b2), .unset, .unset, .unset, .unset, .unset] [(.int (3 : Int32)), (.int (5 : Int32))]))
      have hc96 : ¬ ((5 : Int32) = (3 : Int32)) := by decide
      refine OGo.step (fun uK kK => XS.icmpNo X141.here hx rfl (hb hby at_96) rfl (feq hc96).1 kK) ?_
      show OGo p e below _ (T141.setTop (mkF m 99 #[.val (.long q1), .second, .val (.long q2), .second, .val (.long uu), .second, .val (.int p3), .val (.long s0), .second, .val (.long s0), .second, .val (.int (5 : Int32)), .val (.ref b2), .unset, .unset, .unset, .unset, .unset] []))
      refine OGo.step (fun uK kK => XS.iload X141.here hx rfl (hb hby at_99) rfl kK) ?_
      refine OGo.step (fun uK kK => XS.iconst X141.here hx rfl (hb hby at_101) kK) ?_
      show OGo p e below _ (T141.setTop (mkF m 102 #[.val (.long q1), .second, .val (.long q2), .second, .val (.long uu), .second, .val (.int p3), .val (.long s0), .second, .val (.long s0), .second, .val (.int (5 : Int32)), .val (.ref b2), .unset, .unset, .unset, .unset, .unset] [(.int (4 : Int32)), (.int (5 : Int32))]))
      have hc102 : ¬ ((5 : Int32) = (4 : Int32)) := by decide
      refine OGo.step (fun uK kK => XS.icmpNo X141.here hx rfl (hb hby at_102) rfl (feq hc102).1 kK) ?_
      show OGo p e below _ (T141.setTop (mkF m 105 #[.val (.long q1), .second, .val (.long q2), .second, .val (.long uu), .second, .val (.int p3), .val (.long s0), .second, .val (.long s0), .second, .val (.int (5 : Int32)), .val (.ref b2), .unset, .unset, .unset, .unset, .unset] []))
      refine OGo.step (fun uK kK => XS.iload X141.here hx rfl (hb hby at_105) rfl kK) ?_
      refine OGo.step (fun uK kK => XS.bipush X141.here hx rfl (hb hby at_107) kK) ?_
      show OGo p e below _ (T141.setTop (mkF m 109 #[.val (.long q1), .second, .val (.long q2), .second, .val (.long uu), .second, .val (.int p3), .val (.long s0), .second, .val (.long s0), .second, .val (.int (5 : Int32)), .val (.ref b2), .unset, .unset, .unset, .unset, .unset] [(.int (6 : Int32)), (.int (5 : Int32))]))
      have hc109 : ¬ ((5 : Int32) = (6 : Int32)) := by decide
      refine OGo.step (fun uK kK => XS.icmpNo X141.here hx rfl (hb hby at_109) rfl (feq hc109).1 kK) ?_
      show OGo p e below _ (T141.setTop (mkF m 112 #[.val (.long q1), .second, .val (.long q2), .second, .val (.long uu), .second, .val (.int p3), .val (.long s0), .second, .val (.long s0), .second, .val (.int (5 : Int32)), .val (.ref b2), .unset, .unset, .unset, .unset, .unset] []))
      refine OGo.step (fun uK kK => XS.iload X141.here hx rfl (hb hby at_112) rfl kK) ?_
      refine OGo.step (fun uK kK => XS.bipush X141.here hx rfl (hb hby at_114) kK) ?_
      show OGo p e below _ (T141.setTop (mkF m 116 #[.val (.long q1), .second, .val (.long q2), .second, .val (.long uu), .second, .val (.int p3), .val (.long s0), .second, .val (.long s0), .second, .val (.int (5 : Int32)), .val (.ref b2), .unset, .unset, .unset, .unset, .unset] [(.int (7 : Int32)), (.int (5 : Int32))]))
      have hc116 : ¬ ((5 : Int32) = (7 : Int32)) := by decide
      refine OGo.step (fun uK kK => XS.icmpYes X141.here hx rfl (pc0 := 116) (pc' := 127) rfl (hb hby at_116) rfl (feq hc116).2 (by decide) (by decide) kK) ?_
      show OGo p e below _ (T141.setTop (mkF m 127 #[.val (.long q1), .second, .val (.long q2), .second, .val (.long uu), .second, .val (.int p3), .val (.long s0), .second, .val (.long s0), .second, .val (.int (5 : Int32)), .val (.ref b2), .unset, .unset, .unset, .unset, .unset] []))
      refine OGo.step (fun uK kK => XS.iload X141.here hx rfl (hb hby at_127) rfl kK) ?_
      refine OGo.step (fun uK kK => XS.iconst X141.here hx rfl (hb hby at_129) kK) ?_
      show OGo p e below _ (T141.setTop (mkF m 130 #[.val (.long q1), .second, .val (.long q2), .second, .val (.long uu), .second, .val (.int p3), .val (.long s0), .second, .val (.long s0), .second, .val (.int (5 : Int32)), .val (.ref b2), .unset, .unset, .unset, .unset, .unset] [(.int (5 : Int32)), (.int (5 : Int32))]))
      have hc130 : (5 : Int32) = (5 : Int32) := by decide
      refine OGo.step (fun uK kK => XS.icmpYes X141.here hx rfl (pc0 := 130) (pc' := 140) rfl (hb hby at_130) rfl (teq hc130).1 (by decide) (by decide) kK) ?_
      show OGo p e below _ (T141.setTop (mkF m 140 #[.val (.long q1), .second, .val (.long q2), .second, .val (.long uu), .second, .val (.int p3), .val (.long s0), .second, .val (.long s0), .second, .val (.int (5 : Int32)), .val (.ref b2), .unset, .unset, .unset, .unset, .unset] []))
      refine OGo.step (fun uK kK => XS.aload X141.here hx rfl (hb hby at_140) rfl rfl kK) ?_
      refine OGo.step (fun uK kK => XS.lload X141.here hx rfl (hb hby at_142) rfl kK) ?_
      show OGo p e below _ (T141.setTop (mkF m 144 #[.val (.long q1), .second, .val (.long q2), .second, .val (.long uu), .second, .val (.int p3), .val (.long s0), .second, .val (.long s0), .second, .val (.int (5 : Int32)), .val (.ref b2), .unset, .unset, .unset, .unset, .unset] [(.long s0), (.ref b2)]))
      obtain ⟨cq148, kq148, q148a, q148b, q148c⟩ := isOf hZ rfl A2_142
      obtain ⟨_, _, ⟨T148, Lq148, kq_148, nq_148⟩, -, X148, ⟨Lc148, hQ148, lq148, yq148, zq148⟩, st148⟩ := X141.virtualBack hx (y := (⟨"com/example/graph_of_conflicts/graphofconflicts/engine/OpenSnapshots", "remove", "(J)Z"⟩ : MethodName)) (z := (⟨"com/example/graph_of_conflicts/graphofconflicts/engine/OpenSnapshots", "remove", "(J)Z"⟩ : MethodName)) hown (mvT hZ (hw _ (List.mem_of_getElem? (i := 52) rfl))) (mvT hZ (hw _ (List.mem_of_getElem? (i := 53) rfl))) (notFace_of_selects (args := #[]) (mvT hZ (hw _ (List.mem_of_getElem? (i := 55) rfl)))) (mvT hZ (hw _ (List.mem_of_getElem? (i := 55) rfl))) (mvT hZ (hw _ (List.mem_of_getElem? (i := 54) rfl))) (by decide) (backOf (W := 0) (rmr2 l Z a0 hw [] b2 aS kS s0 (0 : Int64) (0 : Int64) (0 : Int64) (0 : Int64) (0 : Int64) (0 : Int64) (0 : Int64) aH kH (2 : Int32) (0 : Int32) (0 : Int32) (0 : Int32) (0 : Int32) (0 : Int32) (0 : Int32) (0 : Int32) T141.heap n0 ZS141 Fs141 Fh141 Fn141 Vs141 Vh141 A2_142 gn_b2 gS gH ne_b2_aS ne_b2_aH neSH) hZ (hw _ (List.mem_of_getElem? (i := 56) rfl)) (hw _ (List.mem_of_getElem? (i := 7) rfl)) (by decide) (by decide)) q148a q148c (g := (mkF m 144 #[.val (.long q1), .second, .val (.long q2), .second, .val (.long uu), .second, .val (.int p3), .val (.long s0), .second, .val (.long s0), .second, .val (.int (5 : Int32)), .val (.ref b2), .unset, .unset, .unset, .unset, .unset] [(.long s0), (.ref b2)])) rfl (by rw [hml]; rfl) (Steps.refl _) (argsL := [(.long s0)]) (rest := []) (lenOf pd0_4 rfl) rfl (by show 2 * 0 + _ ≤ _; exact Nat.le_of_eq rfl) (hb hby at_144) (fun _ _ => ⟨rfl, rfl, (by decide : 3 + 0 ≤ _), (by decide : 19 + 0 ≤ _)⟩)
      dsimp only [Pt.U, Pt.locs, Pt.cells, Pt.slots] at X148 lq148 yq148 zq148 st148 hQ148
      subst lq148 yq148 zq148
      obtain ⟨rfl, Nq148, K148, Fs148, Fh148, Fn148, Vs148, Vh148⟩ := hQ148
      have A2_149 := (A2_142.keep K148)
      have ZS148 : n0 ≤ T148.heap.size := Nat.le_trans ZS141 K148.1
      have KC148 : Keep h0 T148.heap [] := KC141.trans K148 (allS (Or.inr sz_b2) (allS (Or.inr sz_aS) (allS (Or.inr sz_aH) all0)))
      have N148 := Fr.app N141 Nq148
      refine OGo.steps st148 ?_
      show OGo p e below _ (T148.setTop (mkF m 147 #[.val (.long q1), .second, .val (.long q2), .second, .val (.long uu), .second, .val (.int p3), .val (.long s0), .second, .val (.long s0), .second, .val (.int (5 : Int32)), .val (.ref b2), .unset, .unset, .unset, .unset, .unset] [(.int (0 : Int32))]))
      refine OGo.step (fun uK kK => XS.pop X148.here hx rfl (hb hby at_147) rfl rfl kK) ?_
      refine OGo.step (fun uK kK => XS.iload X148.here hx rfl (hb hby at_148) rfl kK) ?_
      refine OGo.step (fun uK kK => XS.iconst X148.here hx rfl (hb hby at_150) kK) ?_
      show OGo p e below _ (T148.setTop (mkF m 151 #[.val (.long q1), .second, .val (.long q2), .second, .val (.long uu), .second, .val (.int p3), .val (.long s0), .second, .val (.long s0), .second, .val (.int (5 : Int32)), .val (.ref b2), .unset, .unset, .unset, .unset, .unset] [(.int (1 : Int32)), (.int (5 : Int32))]))
      have hc151 : ¬ ((5 : Int32) = (1 : Int32)) := by decide
      refine OGo.step (fun uK kK => XS.icmpNo X148.here hx rfl (hb hby at_151) rfl (feq hc151).1 kK) ?_
      show OGo p e below _ (T148.setTop (mkF m 154 #[.val (.long q1), .second, .val (.long q2), .second, .val (.long uu), .second, .val (.int p3), .val (.long s0), .second, .val (.long s0), .second, .val (.int (5 : Int32)), .val (.ref b2), .unset, .unset, .unset, .unset, .unset] []))
      refine OGo.step (fun uK kK => XS.iload X148.here hx rfl (hb hby at_154) rfl kK) ?_
      refine OGo.step (fun uK kK => XS.iconst X148.here hx rfl (hb hby at_156) kK) ?_
      show OGo p e below _ (T148.setTop (mkF m 157 #[.val (.long q1), .second, .val (.long q2), .second, .val (.long uu), .second, .val (.int p3), .val (.long s0), .second, .val (.long s0), .second, .val (.int (5 : Int32)), .val (.ref b2), .unset, .unset, .unset, .unset, .unset] [(.int (2 : Int32)), (.int (5 : Int32))]))
      have hc157 : ¬ ((5 : Int32) = (2 : Int32)) := by decide
      refine OGo.step (fun uK kK => XS.icmpNo X148.here hx rfl (hb hby at_157) rfl (feq hc157).1 kK) ?_
      show OGo p e below _ (T148.setTop (mkF m 160 #[.val (.long q1), .second, .val (.long q2), .second, .val (.long uu), .second, .val (.int p3), .val (.long s0), .second, .val (.long s0), .second, .val (.int (5 : Int32)), .val (.ref b2), .unset, .unset, .unset, .unset, .unset] []))
      refine OGo.step (fun uK kK => XS.iload X148.here hx rfl (hb hby at_160) rfl kK) ?_
      refine OGo.step (fun uK kK => XS.iconst X148.here hx rfl (hb hby at_162) kK) ?_
      show OGo p e below _ (T148.setTop (mkF m 163 #[.val (.long q1), .second, .val (.long q2), .second, .val (.long uu), .second, .val (.int p3), .val (.long s0), .second, .val (.long s0), .second, .val (.int (5 : Int32)), .val (.ref b2), .unset, .unset, .unset, .unset, .unset] [(.int (3 : Int32)), (.int (5 : Int32))]))
      have hc163 : ¬ ((5 : Int32) = (3 : Int32)) := by decide
      refine OGo.step (fun uK kK => XS.icmpNo X148.here hx rfl (hb hby at_163) rfl (feq hc163).1 kK) ?_
      show OGo p e below _ (T148.setTop (mkF m 166 #[.val (.long q1), .second, .val (.long q2), .second, .val (.long uu), .second, .val (.int p3), .val (.long s0), .second, .val (.long s0), .second, .val (.int (5 : Int32)), .val (.ref b2), .unset, .unset, .unset, .unset, .unset] []))
      refine OGo.step (fun uK kK => XS.iload X148.here hx rfl (hb hby at_166) rfl kK) ?_
      refine OGo.step (fun uK kK => XS.iconst X148.here hx rfl (hb hby at_168) kK) ?_
      show OGo p e below _ (T148.setTop (mkF m 169 #[.val (.long q1), .second, .val (.long q2), .second, .val (.long uu), .second, .val (.int p3), .val (.long s0), .second, .val (.long s0), .second, .val (.int (5 : Int32)), .val (.ref b2), .unset, .unset, .unset, .unset, .unset] [(.int (5 : Int32)), (.int (5 : Int32))]))
      have hc169 : (5 : Int32) = (5 : Int32) := by decide
      refine OGo.step (fun uK kK => XS.icmpYes X148.here hx rfl (pc0 := 169) (pc' := 179) rfl (hb hby at_169) rfl (teq hc169).1 (by decide) (by decide) kK) ?_
      show OGo p e below _ (T148.setTop (mkF m 179 #[.val (.long q1), .second, .val (.long q2), .second, .val (.long uu), .second, .val (.int p3), .val (.long s0), .second, .val (.long s0), .second, .val (.int (5 : Int32)), .val (.ref b2), .unset, .unset, .unset, .unset, .unset] []))
      refine OGo.step (fun uK kK => XS.iconst X148.here hx rfl (hb hby at_179) kK) ?_
      show OGo p e below _ (T148.setTop (mkF m 180 #[.val (.long q1), .second, .val (.long q2), .second, .val (.long uu), .second, .val (.int p3), .val (.long s0), .second, .val (.long s0), .second, .val (.int (5 : Int32)), .val (.ref b2), .unset, .unset, .unset, .unset, .unset] [(.int (1 : Int32))]))
      refine OGo.step (fun uK kK => XS.goto X148.here hx rfl (pc0 := 180) (pc' := 184) rfl (hb hby at_180) (by decide) (by decide) kK) ?_
      show OGo p e below _ (T148.setTop (mkF m 184 #[.val (.long q1), .second, .val (.long q2), .second, .val (.long uu), .second, .val (.int p3), .val (.long s0), .second, .val (.long s0), .second, .val (.int (5 : Int32)), .val (.ref b2), .unset, .unset, .unset, .unset, .unset] [(.int (1 : Int32))]))
      refine OGo.step (fun uK kK => XS.istore X148.here hx rfl (hb hby at_184) rfl (l' := #[.val (.long q1), .second, .val (.long q2), .second, .val (.long uu), .second, .val (.int p3), .val (.long s0), .second, .val (.long s0), .second, .val (.int (5 : Int32)), .val (.ref b2), .val (.int (1 : Int32)), .unset, .unset, .unset, .unset]) rfl kK) ?_
      refine OGo.step (fun uK kK => XS.iload X148.here hx rfl (hb hby at_186) rfl kK) ?_
      refine OGo.step (fun uK kK => XS.iconst X148.here hx rfl (hb hby at_188) kK) ?_
      show OGo p e below _ (T148.setTop (mkF m 189 #[.val (.long q1), .second, .val (.long q2), .second, .val (.long uu), .second, .val (.int p3), .val (.long s0), .second, .val (.long s0), .second, .val (.int (5 : Int32)), .val (.ref b2), .val (.int (1 : Int32)), .unset, .unset, .unset, .unset] [(.int (3 : Int32)), (.int (5 : Int32))]))
      have hc189 : ¬ ((5 : Int32) = (3 : Int32)) := by decide
      refine OGo.step (fun uK kK => XS.icmpYes X148.here hx rfl (pc0 := 189) (pc' := 197) rfl (hb hby at_189) rfl (feq hc189).2 (by decide) (by decide) kK) ?_
      show OGo p e below _ (T148.setTop (mkF m 197 #[.val (.long q1), .second, .val (.long q2), .second, .val (.long uu), .second, .val (.int p3), .val (.long s0), .second, .val (.long s0), .second, .val (.int (5 : Int32)), .val (.ref b2), .val (.int (1 : Int32)), .unset, .unset, .unset, .unset] []))
      refine OGo.step (fun uK kK => XS.lload X148.here hx rfl (hb hby at_197) rfl kK) ?_
      show OGo p e below _ (T148.setTop (mkF m 199 #[.val (.long q1), .second, .val (.long q2), .second, .val (.long uu), .second, .val (.int p3), .val (.long s0), .second, .val (.long s0), .second, .val (.int (5 : Int32)), .val (.ref b2), .val (.int (1 : Int32)), .unset, .unset, .unset, .unset] [(.long s0)]))
      refine OGo.step (fun uK kK => XS.lstore X148.here hx rfl (hb hby at_199) rfl (l' := #[.val (.long q1), .second, .val (.long q2), .second, .val (.long uu), .second, .val (.int p3), .val (.long s0), .second, .val (.long s0), .second, .val (.int (5 : Int32)), .val (.ref b2), .val (.int (1 : Int32)), .val (.long s0), .second, .unset, .unset]) rfl kK) ?_
      refine OGo.step (fun uK kK => XS.iload X148.here hx rfl (hb hby at_201) rfl kK) ?_
      show OGo p e below _ (T148.setTop (mkF m 203 #[.val (.long q1), .second, .val (.long q2), .second, .val (.long uu), .second, .val (.int p3), .val (.long s0), .second, .val (.long s0), .second, .val (.int (5 : Int32)), .val (.ref b2), .val (.int (1 : Int32)), .val (.long s0), .second, .unset, .unset] [(.int (1 : Int32))]))
      have hc203 : ¬ ((1 : Int32) = (0 : Int32)) := by decide
      refine OGo.step (fun uK kK => XS.ifYes X148.here hx rfl (pc0 := 203) (pc' := 214) rfl (hb hby at_203) rfl ((if0 _ _).trans (feq hc203).2) (by decide) (by decide) kK) ?_
      show OGo p e below _ (T148.setTop (mkF m 214 #[.val (.long q1), .second, .val (.long q2), .second, .val (.long uu), .second, .val (.int p3), .val (.long s0), .second, .val (.long s0), .second, .val (.int (5 : Int32)), .val (.ref b2), .val (.int (1 : Int32)), .val (.long s0), .second, .unset, .unset] []))
      refine OGo.step (fun uK kK => XS.lload X148.here hx rfl (hb hby at_214) rfl kK) ?_
      refine OGo.step (fun uK kK => XS.lload X148.here hx rfl (hb hby at_216) rfl kK) ?_
      show OGo p e below _ (T148.setTop (mkF m 218 #[.val (.long q1), .second, .val (.long q2), .second, .val (.long uu), .second, .val (.int p3), .val (.long s0), .second, .val (.long s0), .second, .val (.int (5 : Int32)), .val (.ref b2), .val (.int (1 : Int32)), .val (.long s0), .second, .unset, .unset] [(.long uu), (.long s0)]))
      refine OGo.step (fun uK kK => XS.lcmp X148.here hx rfl (hb hby at_218) rfl kK) ?_
      show OGo p e below _ (T148.setTop (mkF m 219 #[.val (.long q1), .second, .val (.long q2), .second, .val (.long uu), .second, .val (.int p3), .val (.long s0), .second, .val (.long s0), .second, .val (.int (5 : Int32)), .val (.ref b2), .val (.int (1 : Int32)), .val (.long s0), .second, .unset, .unset] [(.int (lcmpW s0 uu))]))
      refine OGo.step (t' := T148.setTop (mkF m 234 #[.val (.long q1), .second, .val (.long q2), .second, .val (.long uu), .second, .val (.int p3), .val (.long s0), .second, .val (.long s0), .second, .val (.int (5 : Int32)), .val (.ref b2), .val (.int (1 : Int32)), .val (.long s0), .second, .val (.long (if s0 < uu then s0 else (-1 : Int64))), .second] [])) (fun uK kK => ?_) ?_
      · show Steps p.tables e below (T148.setTop (mkF m 219 #[.val (.long q1), .second, .val (.long q2), .second, .val (.long uu), .second, .val (.int p3), .val (.long s0), .second, .val (.long s0), .second, .val (.int (5 : Int32)), .val (.ref b2), .val (.int (1 : Int32)), .val (.long s0), .second, .unset, .unset] [(.int (lcmpW s0 uu))])) _
        by_cases hm219_155 : s0 < uu
        · try rw [if_pos hm219_155] at kK
          refine XS.ifNo X148.here hx rfl (hb hby at_219) rfl ((if0 _ _).trans (tlt ((lw_lt _ _).mpr hm219_155)).2.1) ?_
          refine XS.lload X148.here hx rfl (hb hby at_222) rfl ?_
          show Steps p.tables e below (T148.setTop (mkF m 224 #[.val (.long q1), .second, .val (.long q2), .second, .val (.long uu), .second, .val (.int p3), .val (.long s0), .second, .val (.long s0), .second, .val (.int (5 : Int32)), .val (.ref b2), .val (.int (1 : Int32)), .val (.long s0), .second, .unset, .unset] [(.long s0)])) _
          refine XS.lstore X148.here hx rfl (hb hby at_224) rfl (l' := #[.val (.long q1), .second, .val (.long q2), .second, .val (.long uu), .second, .val (.int p3), .val (.long s0), .second, .val (.long s0), .second, .val (.int (5 : Int32)), .val (.ref b2), .val (.int (1 : Int32)), .val (.long s0), .second, .val (.long s0), .second]) rfl ?_
          show Steps p.tables e below (T148.setTop (mkF m 226 #[.val (.long q1), .second, .val (.long q2), .second, .val (.long uu), .second, .val (.int p3), .val (.long s0), .second, .val (.long s0), .second, .val (.int (5 : Int32)), .val (.ref b2), .val (.int (1 : Int32)), .val (.long s0), .second, .val (.long s0), .second] [])) _
          refine XS.goto X148.here hx rfl (pc0 := 226) (pc' := 234) rfl (hb hby at_226) (by decide) (by decide) ?_
          show Steps p.tables e below (T148.setTop (mkF m 234 #[.val (.long q1), .second, .val (.long q2), .second, .val (.long uu), .second, .val (.int p3), .val (.long s0), .second, .val (.long s0), .second, .val (.int (5 : Int32)), .val (.ref b2), .val (.int (1 : Int32)), .val (.long s0), .second, .val (.long s0), .second] [])) _
          exact kK
        · try rw [if_neg hm219_155] at kK
          refine XS.ifYes X148.here hx rfl (pc0 := 219) (pc' := 229) rfl (hb hby at_219) rfl ((if0 _ _).trans (flt (fun q => hm219_155 ((lw_lt _ _).mp q))).2.1) (by decide) (by decide) ?_
          refine X148.ldc2J hx hown (mvT hZ (hw _ (List.mem_of_getElem? (i := 45) rfl))) rfl (hb hby at_229) ?_
          show Steps p.tables e below (T148.setTop (mkF m 232 #[.val (.long q1), .second, .val (.long q2), .second, .val (.long uu), .second, .val (.int p3), .val (.long s0), .second, .val (.long s0), .second, .val (.int (5 : Int32)), .val (.ref b2), .val (.int (1 : Int32)), .val (.long s0), .second, .unset, .unset] [(.long (-1 : Int64))])) _
          refine XS.lstore X148.here hx rfl (hb hby at_232) rfl (l' := #[.val (.long q1), .second, .val (.long q2), .second, .val (.long uu), .second, .val (.int p3), .val (.long s0), .second, .val (.long s0), .second, .val (.int (5 : Int32)), .val (.ref b2), .val (.int (1 : Int32)), .val (.long s0), .second, .val (.long (-1 : Int64)), .second]) rfl ?_
          show Steps p.tables e below (T148.setTop (mkF m 234 #[.val (.long q1), .second, .val (.long q2), .second, .val (.long uu), .second, .val (.int p3), .val (.long s0), .second, .val (.long s0), .second, .val (.int (5 : Int32)), .val (.ref b2), .val (.int (1 : Int32)), .val (.long s0), .second, .val (.long (-1 : Int64)), .second] [])) _
          exact kK
      show OGo p e below _ (T148.setTop (mkF m 234 #[.val (.long q1), .second, .val (.long q2), .second, .val (.long uu), .second, .val (.int p3), .val (.long s0), .second, .val (.long s0), .second, .val (.int (5 : Int32)), .val (.ref b2), .val (.int (1 : Int32)), .val (.long s0), .second, .val (.long (if s0 < uu then s0 else (-1 : Int64))), .second] []))
      refine OGo.step (fun uK kK => XS.aload X148.here hx rfl (hb hby at_234) rfl rfl kK) ?_
      refine OGo.step (fun uK kK => XS.lload X148.here hx rfl (hb hby at_236) rfl kK) ?_
      show OGo p e below _ (T148.setTop (mkF m 238 #[.val (.long q1), .second, .val (.long q2), .second, .val (.long uu), .second, .val (.int p3), .val (.long s0), .second, .val (.long s0), .second, .val (.int (5 : Int32)), .val (.ref b2), .val (.int (1 : Int32)), .val (.long s0), .second, .val (.long (if s0 < uu then s0 else (-1 : Int64))), .second] [(.long uu), (.ref b2)]))
      obtain ⟨cq156, kq156, q156a, q156b, q156c⟩ := isOf hZ rfl A2_149
      obtain ⟨_, _, ⟨T156, Lq156, kq_156, nq_156⟩, -, X156, ⟨Lc156, hQ156, lq156, yq156, zq156⟩, st156⟩ := X148.virtualBack hx (y := (⟨"com/example/graph_of_conflicts/graphofconflicts/engine/OpenSnapshots", "earliestBefore", "(J)J"⟩ : MethodName)) (z := (⟨"com/example/graph_of_conflicts/graphofconflicts/engine/OpenSnapshots", "earliestBefore", "(J)J"⟩ : MethodName)) hown (mvT hZ (hw _ (List.mem_of_getElem? (i := 46) rfl))) (mvT hZ (hw _ (List.mem_of_getElem? (i := 47) rfl))) (notFace_of_selects (args := #[]) (mvT hZ (hw _ (List.mem_of_getElem? (i := 49) rfl)))) (mvT hZ (hw _ (List.mem_of_getElem? (i := 49) rfl))) (mvT hZ (hw _ (List.mem_of_getElem? (i := 48) rfl))) (by decide) (backOf (W := 0) (rme1 l Z a0 hw [] b2 uu aS kS s0 (0 : Int64) (0 : Int64) (0 : Int64) (0 : Int64) (0 : Int64) (0 : Int64) (0 : Int64) T148.heap n0 ZS148 Fs148 Fn148 Vs148) hZ (hw _ (List.mem_of_getElem? (i := 50) rfl)) (hw _ (List.mem_of_getElem? (i := 7) rfl)) (by decide) (by decide)) q156a q156c (g := (mkF m 238 #[.val (.long q1), .second, .val (.long q2), .second, .val (.long uu), .second, .val (.int p3), .val (.long s0), .second, .val (.long s0), .second, .val (.int (5 : Int32)), .val (.ref b2), .val (.int (1 : Int32)), .val (.long s0), .second, .val (.long (if s0 < uu then s0 else (-1 : Int64))), .second] [(.long uu), (.ref b2)])) rfl (by rw [hml]; rfl) (Steps.refl _) (argsL := [(.long uu)]) (rest := []) (lenOf pd0_2 rfl) rfl (by show 2 * 0 + _ ≤ _; exact Nat.le_of_eq rfl) (hb hby at_238) (fun _ _ => ⟨rfl, rfl, (by decide : 3 + 0 ≤ _), (by decide : 19 + 0 ≤ _)⟩)
      dsimp only [Pt.U, Pt.locs, Pt.cells, Pt.slots] at X156 lq156 yq156 zq156 st156 hQ156
      subst lq156 yq156 zq156
      obtain ⟨rfl, Nq156, e156⟩ := hQ156
      have N156 := Fr.app N148 Nq156
      refine OGo.steps st156 ?_
      show OGo p e below _ (T156.setTop (mkF m 241 #[.val (.long q1), .second, .val (.long q2), .second, .val (.long uu), .second, .val (.int p3), .val (.long s0), .second, .val (.long s0), .second, .val (.int (5 : Int32)), .val (.ref b2), .val (.int (1 : Int32)), .val (.long s0), .second, .val (.long (if s0 < uu then s0 else (-1 : Int64))), .second] [(.long (if s0 < uu then s0 else (-1 : Int64)))]))
      refine OGo.step (fun uK kK => XS.lload X156.here hx rfl (hb hby at_241) rfl kK) ?_
      show OGo p e below _ (T156.setTop (mkF m 243 #[.val (.long q1), .second, .val (.long q2), .second, .val (.long uu), .second, .val (.int p3), .val (.long s0), .second, .val (.long s0), .second, .val (.int (5 : Int32)), .val (.ref b2), .val (.int (1 : Int32)), .val (.long s0), .second, .val (.long (if s0 < uu then s0 else (-1 : Int64))), .second] [(.long (if s0 < uu then s0 else (-1 : Int64))), (.long (if s0 < uu then s0 else (-1 : Int64)))]))
      refine OGo.step (fun uK kK => XS.lcmp X156.here hx rfl (hb hby at_243) rfl kK) ?_
      show OGo p e below _ (T156.setTop (mkF m 244 #[.val (.long q1), .second, .val (.long q2), .second, .val (.long uu), .second, .val (.int p3), .val (.long s0), .second, .val (.long s0), .second, .val (.int (5 : Int32)), .val (.ref b2), .val (.int (1 : Int32)), .val (.long s0), .second, .val (.long (if s0 < uu then s0 else (-1 : Int64))), .second] [(.int (lcmpW (if s0 < uu then s0 else (-1 : Int64)) (if s0 < uu then s0 else (-1 : Int64))))]))
      have hc244 : (if s0 < uu then s0 else (-1 : Int64)) = (if s0 < uu then s0 else (-1 : Int64)) := rfl
      refine OGo.step (fun uK kK => XS.ifNo X156.here hx rfl (hb hby at_244) rfl ((if0 _ _).trans (teq ((lw_eq _ _).mpr hc244)).2) kK) ?_
      show OGo p e below _ (T156.setTop (mkF m 247 #[.val (.long q1), .second, .val (.long q2), .second, .val (.long uu), .second, .val (.int p3), .val (.long s0), .second, .val (.long s0), .second, .val (.int (5 : Int32)), .val (.ref b2), .val (.int (1 : Int32)), .val (.long s0), .second, .val (.long (if s0 < uu then s0 else (-1 : Int64))), .second] []))
      refine OGo.step (fun uK kK => XS.iconst X156.here hx rfl (hb hby at_247) kK) ?_
      show OGo p e below _ (T156.setTop (mkF m 248 #[.val (.long q1), .second, .val (.long q2), .second, .val (.long uu), .second, .val (.int p3), .val (.long s0), .second, .val (.long s0), .second, .val (.int (5 : Int32)), .val (.ref b2), .val (.int (1 : Int32)), .val (.long s0), .second, .val (.long (if s0 < uu then s0 else (-1 : Int64))), .second] [(.int (1 : Int32))]))
      refine OGo.step (fun uK kK => XS.goto X156.here hx rfl (pc0 := 248) (pc' := 252) rfl (hb hby at_248) (by decide) (by decide) kK) ?_
      show OGo p e below _ (T156.setTop (mkF m 252 #[.val (.long q1), .second, .val (.long q2), .second, .val (.long uu), .second, .val (.int p3), .val (.long s0), .second, .val (.long s0), .second, .val (.int (5 : Int32)), .val (.ref b2), .val (.int (1 : Int32)), .val (.long s0), .second, .val (.long (if s0 < uu then s0 else (-1 : Int64))), .second] [(.int (1 : Int32))]))
      exact OGo.retN X156 hx Bd.notSynchronized (t := .boolean) Bd.returns (by simp) (hb hby at_252) (by decide) (by decide) (by show Q0 Z q1 q2 uu p3 h0 n0 _ T156.heap _; rw [e156]; exact ⟨rfl, N156⟩)
  · skip
    subst h
    show OGo p e below _ (T3.setTop (mkF m 35 #[.val (.long q1), .second, .val (.long q2), .second, .val (.long uu), .second, .val (.int p3), .val (.long s0), .second, .val (.long s1), .second, .val (.int (6 : Int32)), .val (.ref b2), .unset, .unset, .unset, .unset, .unset] []))
    refine OGo.step (fun uK kK => XS.iload X3.here hx rfl (hb hby at_35) rfl kK) ?_
    show OGo p e below _ (T3.setTop (mkF m 37 #[.val (.long q1), .second, .val (.long q2), .second, .val (.long uu), .second, .val (.int p3), .val (.long s0), .second, .val (.long s1), .second, .val (.int (6 : Int32)), .val (.ref b2), .unset, .unset, .unset, .unset, .unset] [(.int (6 : Int32))]))
    have hc37 : ¬ ((6 : Int32) = (0 : Int32)) := by decide
    refine OGo.step (fun uK kK => XS.ifNo X3.here hx rfl (hb hby at_37) rfl ((if0 _ _).trans (feq hc37).1) kK) ?_
    show OGo p e below _ (T3.setTop (mkF m 40 #[.val (.long q1), .second, .val (.long q2), .second, .val (.long uu), .second, .val (.int p3), .val (.long s0), .second, .val (.long s1), .second, .val (.int (6 : Int32)), .val (.ref b2), .unset, .unset, .unset, .unset, .unset] []))
    refine OGo.step (fun uK kK => XS.aload X3.here hx rfl (hb hby at_40) rfl rfl kK) ?_
    refine OGo.step (fun uK kK => XS.lload X3.here hx rfl (hb hby at_42) rfl kK) ?_
    show OGo p e below _ (T3.setTop (mkF m 44 #[.val (.long q1), .second, .val (.long q2), .second, .val (.long uu), .second, .val (.int p3), .val (.long s0), .second, .val (.long s1), .second, .val (.int (6 : Int32)), .val (.ref b2), .unset, .unset, .unset, .unset, .unset] [(.long s0), (.ref b2)]))
    obtain ⟨cq157, kq157, q157a, q157b, q157c⟩ := isOf hZ rfl A2_4
    obtain ⟨_, _, ⟨T157, Lq157, kq_157, nq_157⟩, -, X157, ⟨Lc157, hQ157, lq157, yq157, zq157⟩, st157⟩ := X3.virtualBack hx (y := (⟨"com/example/graph_of_conflicts/graphofconflicts/engine/OpenSnapshots", "add", "(J)V"⟩ : MethodName)) (z := (⟨"com/example/graph_of_conflicts/graphofconflicts/engine/OpenSnapshots", "add", "(J)V"⟩ : MethodName)) hown (mvT hZ (hw _ (List.mem_of_getElem? (i := 20) rfl))) (mvT hZ (hw _ (List.mem_of_getElem? (i := 21) rfl))) (notFace_of_selects (args := #[]) (mvT hZ (hw _ (List.mem_of_getElem? (i := 23) rfl)))) (mvT hZ (hw _ (List.mem_of_getElem? (i := 23) rfl))) (mvT hZ (hw _ (List.mem_of_getElem? (i := 22) rfl))) (by decide) (backOf (W := 0) (rma0 l Z a0 hw [] b2 aS kS (0 : Int64) (0 : Int64) (0 : Int64) (0 : Int64) (0 : Int64) (0 : Int64) (0 : Int64) (0 : Int64) aH kH (0 : Int32) (0 : Int32) (0 : Int32) (0 : Int32) (0 : Int32) (0 : Int32) (0 : Int32) (0 : Int32) s0 T3.heap n0 ZS3 Fs3 Fh3 Fn3 Vs3 Vh3 A2_4 gn_b2 gS gH ne_b2_aS ne_b2_aH neSH) hZ (hw _ (List.mem_of_getElem? (i := 24) rfl)) (hw _ (List.mem_of_getElem? (i := 7) rfl)) (by decide) (by decide)) q157a q157c (g := (mkF m 44 #[.val (.long q1), .second, .val (.long q2), .second, .val (.long uu), .second, .val (.int p3), .val (.long s0), .second, .val (.long s1), .second, .val (.int (6 : Int32)), .val (.ref b2), .unset, .unset, .unset, .unset, .unset] [(.long s0), (.ref b2)])) rfl (by rw [hml]; rfl) (Steps.refl _) (argsL := [(.long s0)]) (rest := []) (lenOf pd0_3 rfl) rfl (by show 2 * 0 + _ ≤ _; exact Nat.le_of_eq rfl) (hb hby at_44) (fun _ _ => ⟨rfl, rfl, (by decide : 3 + 0 ≤ _), (by decide : 19 + 0 ≤ _)⟩)
    dsimp only [Pt.U, Pt.locs, Pt.cells, Pt.slots] at X157 lq157 yq157 zq157 st157 hQ157
    subst lq157 yq157 zq157
    obtain ⟨rfl, Nq157, K157, Fs157, Fh157, Fn157, Vs157, Vh157⟩ := hQ157
    have A2_158 := (A2_4.keep K157)
    have ZS157 : n0 ≤ T157.heap.size := Nat.le_trans ZS3 K157.1
    have KC157 : Keep h0 T157.heap [] := KC3.trans K157 (allS (Or.inr sz_b2) (allS (Or.inr sz_aS) (allS (Or.inr sz_aH) all0)))
    have N157 := Fr.app N3 Nq157
    refine OGo.steps st157 ?_
    show OGo p e below _ (T157.setTop (mkF m 47 #[.val (.long q1), .second, .val (.long q2), .second, .val (.long uu), .second, .val (.int p3), .val (.long s0), .second, .val (.long s1), .second, .val (.int (6 : Int32)), .val (.ref b2), .unset, .unset, .unset, .unset, .unset] []))
    refine OGo.step (fun uK kK => XS.iload X157.here hx rfl (hb hby at_47) rfl kK) ?_
    refine OGo.step (fun uK kK => XS.iconst X157.here hx rfl (hb hby at_49) kK) ?_
    show OGo p e below _ (T157.setTop (mkF m 50 #[.val (.long q1), .second, .val (.long q2), .second, .val (.long uu), .second, .val (.int p3), .val (.long s0), .second, .val (.long s1), .second, .val (.int (6 : Int32)), .val (.ref b2), .unset, .unset, .unset, .unset, .unset] [(.int (2 : Int32)), (.int (6 : Int32))]))
    have hc50 : ¬ ((6 : Int32) = (2 : Int32)) := by decide
    refine OGo.step (fun uK kK => XS.icmpNo X157.here hx rfl (hb hby at_50) rfl (feq hc50).1 kK) ?_
    show OGo p e below _ (T157.setTop (mkF m 53 #[.val (.long q1), .second, .val (.long q2), .second, .val (.long uu), .second, .val (.int p3), .val (.long s0), .second, .val (.long s1), .second, .val (.int (6 : Int32)), .val (.ref b2), .unset, .unset, .unset, .unset, .unset] []))
    refine OGo.step (fun uK kK => XS.iload X157.here hx rfl (hb hby at_53) rfl kK) ?_
    refine OGo.step (fun uK kK => XS.iconst X157.here hx rfl (hb hby at_55) kK) ?_
    show OGo p e below _ (T157.setTop (mkF m 56 #[.val (.long q1), .second, .val (.long q2), .second, .val (.long uu), .second, .val (.int p3), .val (.long s0), .second, .val (.long s1), .second, .val (.int (6 : Int32)), .val (.ref b2), .unset, .unset, .unset, .unset, .unset] [(.int (3 : Int32)), (.int (6 : Int32))]))
    have hc56 : ¬ ((6 : Int32) = (3 : Int32)) := by decide
    refine OGo.step (fun uK kK => XS.icmpNo X157.here hx rfl (hb hby at_56) rfl (feq hc56).1 kK) ?_
    show OGo p e below _ (T157.setTop (mkF m 59 #[.val (.long q1), .second, .val (.long q2), .second, .val (.long uu), .second, .val (.int p3), .val (.long s0), .second, .val (.long s1), .second, .val (.int (6 : Int32)), .val (.ref b2), .unset, .unset, .unset, .unset, .unset] []))
    refine OGo.step (fun uK kK => XS.iload X157.here hx rfl (hb hby at_59) rfl kK) ?_
    refine OGo.step (fun uK kK => XS.iconst X157.here hx rfl (hb hby at_61) kK) ?_
    show OGo p e below _ (T157.setTop (mkF m 62 #[.val (.long q1), .second, .val (.long q2), .second, .val (.long uu), .second, .val (.int p3), .val (.long s0), .second, .val (.long s1), .second, .val (.int (6 : Int32)), .val (.ref b2), .unset, .unset, .unset, .unset, .unset] [(.int (5 : Int32)), (.int (6 : Int32))]))
    have hc62 : ¬ ((6 : Int32) = (5 : Int32)) := by decide
    refine OGo.step (fun uK kK => XS.icmpNo X157.here hx rfl (hb hby at_62) rfl (feq hc62).1 kK) ?_
    show OGo p e below _ (T157.setTop (mkF m 65 #[.val (.long q1), .second, .val (.long q2), .second, .val (.long uu), .second, .val (.int p3), .val (.long s0), .second, .val (.long s1), .second, .val (.int (6 : Int32)), .val (.ref b2), .unset, .unset, .unset, .unset, .unset] []))
    refine OGo.step (fun uK kK => XS.iload X157.here hx rfl (hb hby at_65) rfl kK) ?_
    refine OGo.step (fun uK kK => XS.bipush X157.here hx rfl (hb hby at_67) kK) ?_
    show OGo p e below _ (T157.setTop (mkF m 69 #[.val (.long q1), .second, .val (.long q2), .second, .val (.long uu), .second, .val (.int p3), .val (.long s0), .second, .val (.long s1), .second, .val (.int (6 : Int32)), .val (.ref b2), .unset, .unset, .unset, .unset, .unset] [(.int (7 : Int32)), (.int (6 : Int32))]))
    have hc69 : ¬ ((6 : Int32) = (7 : Int32)) := by decide
    refine OGo.step (fun uK kK => XS.icmpYes X157.here hx rfl (pc0 := 69) (pc' := 79) rfl (hb hby at_69) rfl (feq hc69).2 (by decide) (by decide) kK) ?_
    show OGo p e below _ (T157.setTop (mkF m 79 #[.val (.long q1), .second, .val (.long q2), .second, .val (.long uu), .second, .val (.int p3), .val (.long s0), .second, .val (.long s1), .second, .val (.int (6 : Int32)), .val (.ref b2), .unset, .unset, .unset, .unset, .unset] []))
    refine OGo.step (fun uK kK => XS.iload X157.here hx rfl (hb hby at_79) rfl kK) ?_
    refine OGo.step (fun uK kK => XS.bipush X157.here hx rfl (hb hby at_81) kK) ?_
    show OGo p e below _ (T157.setTop (mkF m 83 #[.val (.long q1), .second, .val (.long q2), .second, .val (.long uu), .second, .val (.int p3), .val (.long s0), .second, .val (.long s1), .second, .val (.int (6 : Int32)), .val (.ref b2), .unset, .unset, .unset, .unset, .unset] [(.int (6 : Int32)), (.int (6 : Int32))]))
    have hc83 : (6 : Int32) = (6 : Int32) := by decide
    refine OGo.step (fun uK kK => XS.icmpNo X157.here hx rfl (hb hby at_83) rfl (teq hc83).2 kK) ?_
    show OGo p e below _ (T157.setTop (mkF m 86 #[.val (.long q1), .second, .val (.long q2), .second, .val (.long uu), .second, .val (.int p3), .val (.long s0), .second, .val (.long s1), .second, .val (.int (6 : Int32)), .val (.ref b2), .unset, .unset, .unset, .unset, .unset] []))
    refine OGo.step (fun uK kK => XS.aload X157.here hx rfl (hb hby at_86) rfl rfl kK) ?_
    refine OGo.step (fun uK kK => XS.lload X157.here hx rfl (hb hby at_88) rfl kK) ?_
    show OGo p e below _ (T157.setTop (mkF m 90 #[.val (.long q1), .second, .val (.long q2), .second, .val (.long uu), .second, .val (.int p3), .val (.long s0), .second, .val (.long s1), .second, .val (.int (6 : Int32)), .val (.ref b2), .unset, .unset, .unset, .unset, .unset] [(.long s0), (.ref b2)]))
    obtain ⟨cq164, kq164, q164a, q164b, q164c⟩ := isOf hZ rfl A2_158
    obtain ⟨_, _, ⟨T164, Lq164, kq_164, nq_164⟩, -, X164, ⟨Lc164, hQ164, lq164, yq164, zq164⟩, st164⟩ := X157.virtualBack hx (y := (⟨"com/example/graph_of_conflicts/graphofconflicts/engine/OpenSnapshots", "add", "(J)V"⟩ : MethodName)) (z := (⟨"com/example/graph_of_conflicts/graphofconflicts/engine/OpenSnapshots", "add", "(J)V"⟩ : MethodName)) hown (mvT hZ (hw _ (List.mem_of_getElem? (i := 20) rfl))) (mvT hZ (hw _ (List.mem_of_getElem? (i := 21) rfl))) (notFace_of_selects (args := #[]) (mvT hZ (hw _ (List.mem_of_getElem? (i := 23) rfl)))) (mvT hZ (hw _ (List.mem_of_getElem? (i := 23) rfl))) (mvT hZ (hw _ (List.mem_of_getElem? (i := 22) rfl))) (by decide) (backOf (W := 0) (rmae l Z a0 hw [] b2 aS kS s0 (0 : Int64) (0 : Int64) (0 : Int64) (0 : Int64) (0 : Int64) (0 : Int64) (0 : Int64) aH kH (1 : Int32) (0 : Int32) (0 : Int32) (0 : Int32) (0 : Int32) (0 : Int32) (0 : Int32) (0 : Int32) T157.heap n0 ZS157 Fs157 Fh157 Fn157 Vs157 Vh157 A2_158 gn_b2 gS gH ne_b2_aS ne_b2_aH neSH) hZ (hw _ (List.mem_of_getElem? (i := 24) rfl)) (hw _ (List.mem_of_getElem? (i := 7) rfl)) (by decide) (by decide)) q164a q164c (g := (mkF m 90 #[.val (.long q1), .second, .val (.long q2), .second, .val (.long uu), .second, .val (.int p3), .val (.long s0), .second, .val (.long s1), .second, .val (.int (6 : Int32)), .val (.ref b2), .unset, .unset, .unset, .unset, .unset] [(.long s0), (.ref b2)])) rfl (by rw [hml]; rfl) (Steps.refl _) (argsL := [(.long s0)]) (rest := []) (lenOf pd0_3 rfl) rfl (by show 2 * 0 + _ ≤ _; exact Nat.le_of_eq rfl) (hb hby at_90) (fun _ _ => ⟨rfl, rfl, (by decide : 3 + 0 ≤ _), (by decide : 19 + 0 ≤ _)⟩)
    dsimp only [Pt.U, Pt.locs, Pt.cells, Pt.slots] at X164 lq164 yq164 zq164 st164 hQ164
    subst lq164 yq164 zq164
    obtain ⟨rfl, Nq164, K164, Fs164, Fh164, Fn164, Vs164, Vh164⟩ := hQ164
    have A2_165 := (A2_158.keep K164)
    have ZS164 : n0 ≤ T164.heap.size := Nat.le_trans ZS157 K164.1
    have KC164 : Keep h0 T164.heap [] := KC157.trans K164 (allS (Or.inr sz_b2) (allS (Or.inr sz_aS) (allS (Or.inr sz_aH) all0)))
    have N164 := Fr.app N157 Nq164
    refine OGo.steps st164 ?_
    show OGo p e below _ (T164.setTop (mkF m 93 #[.val (.long q1), .second, .val (.long q2), .second, .val (.long uu), .second, .val (.int p3), .val (.long s0), .second, .val (.long s1), .second, .val (.int (6 : Int32)), .val (.ref b2), .unset, .unset, .unset, .unset, .unset] []))
    refine OGo.step (fun uK kK => XS.iload X164.here hx rfl (hb hby at_93) rfl kK) ?_
    refine OGo.step (fun uK kK => XS.iconst X164.here hx rfl (hb hby at_95) kK) ?_
    show OGo p e below _ (T164.setTop (mkF m 96 #[.val (.long q1), .second, .val (.long q2), .second, .val (.long uu), .second, .val (.int p3), .val (.long s0), .second, .val (.long s1), .second, .val (.int (6 : Int32)), .val (.ref b2), .unset, .unset, .unset, .unset, .unset] [(.int (3 : Int32)), (.int (6 : Int32))]))
    have hc96 : ¬ ((6 : Int32) = (3 : Int32)) := by decide
    refine OGo.step (fun uK kK => XS.icmpNo X164.here hx rfl (hb hby at_96) rfl (feq hc96).1 kK) ?_
    show OGo p e below _ (T164.setTop (mkF m 99 #[.val (.long q1), .second, .val (.long q2), .second, .val (.long uu), .second, .val (.int p3), .val (.long s0), .second, .val (.long s1), .second, .val (.int (6 : Int32)), .val (.ref b2), .unset, .unset, .unset, .unset, .unset] []))
    refine OGo.step (fun uK kK => XS.iload X164.here hx rfl (hb hby at_99) rfl kK) ?_
    refine OGo.step (fun uK kK => XS.iconst X164.here hx rfl (hb hby at_101) kK) ?_
    show OGo p e below _ (T164.setTop (mkF m 102 #[.val (.long q1), .second, .val (.long q2), .second, .val (.long uu), .second, .val (.int p3), .val (.long s0), .second, .val (.long s1), .second, .val (.int (6 : Int32)), .val (.ref b2), .unset, .unset, .unset, .unset, .unset] [(.int (4 : Int32)), (.int (6 : Int32))]))
    have hc102 : ¬ ((6 : Int32) = (4 : Int32)) := by decide
    refine OGo.step (fun uK kK => XS.icmpNo X164.here hx rfl (hb hby at_102) rfl (feq hc102).1 kK) ?_
    show OGo p e below _ (T164.setTop (mkF m 105 #[.val (.long q1), .second, .val (.long q2), .second, .val (.long uu), .second, .val (.int p3), .val (.long s0), .second, .val (.long s1), .second, .val (.int (6 : Int32)), .val (.ref b2), .unset, .unset, .unset, .unset, .unset] []))
    refine OGo.step (fun uK kK => XS.iload X164.here hx rfl (hb hby at_105) rfl kK) ?_
    refine OGo.step (fun uK kK => XS.bipush X164.here hx rfl (hb hby at_107) kK) ?_
    show OGo p e below _ (T164.setTop (mkF m 109 #[.val (.long q1), .second, .val (.long q2), .second, .val (.long uu), .second, .val (.int p3), .val (.long s0), .second, .val (.long s1), .second, .val (.int (6 : Int32)), .val (.ref b2), .unset, .unset, .unset, .unset, .unset] [(.int (6 : Int32)), (.int (6 : Int32))]))
    have hc109 : (6 : Int32) = (6 : Int32) := by decide
    refine OGo.step (fun uK kK => XS.icmpYes X164.here hx rfl (pc0 := 109) (pc' := 119) rfl (hb hby at_109) rfl (teq hc109).1 (by decide) (by decide) kK) ?_
    show OGo p e below _ (T164.setTop (mkF m 119 #[.val (.long q1), .second, .val (.long q2), .second, .val (.long uu), .second, .val (.int p3), .val (.long s0), .second, .val (.long s1), .second, .val (.int (6 : Int32)), .val (.ref b2), .unset, .unset, .unset, .unset, .unset] []))
    refine OGo.step (fun uK kK => XS.aload X164.here hx rfl (hb hby at_119) rfl rfl kK) ?_
    refine OGo.step (fun uK kK => XS.lload X164.here hx rfl (hb hby at_121) rfl kK) ?_
    show OGo p e below _ (T164.setTop (mkF m 123 #[.val (.long q1), .second, .val (.long q2), .second, .val (.long uu), .second, .val (.int p3), .val (.long s0), .second, .val (.long s1), .second, .val (.int (6 : Int32)), .val (.ref b2), .unset, .unset, .unset, .unset, .unset] [(.long s0), (.ref b2)]))
    obtain ⟨cq171, kq171, q171a, q171b, q171c⟩ := isOf hZ rfl A2_165
    obtain ⟨_, _, ⟨T171, Lq171, kq_171, nq_171⟩, -, X171, ⟨Lc171, hQ171, lq171, yq171, zq171⟩, st171⟩ := X164.virtualBack hx (y := (⟨"com/example/graph_of_conflicts/graphofconflicts/engine/OpenSnapshots", "remove", "(J)Z"⟩ : MethodName)) (z := (⟨"com/example/graph_of_conflicts/graphofconflicts/engine/OpenSnapshots", "remove", "(J)Z"⟩ : MethodName)) hown (mvT hZ (hw _ (List.mem_of_getElem? (i := 52) rfl))) (mvT hZ (hw _ (List.mem_of_getElem? (i := 53) rfl))) (notFace_of_selects (args := #[]) (mvT hZ (hw _ (List.mem_of_getElem? (i := 55) rfl)))) (mvT hZ (hw _ (List.mem_of_getElem? (i := 55) rfl))) (mvT hZ (hw _ (List.mem_of_getElem? (i := 54) rfl))) (by decide) (backOf (W := 0) (rmr2 l Z a0 hw [] b2 aS kS s0 (0 : Int64) (0 : Int64) (0 : Int64) (0 : Int64) (0 : Int64) (0 : Int64) (0 : Int64) aH kH (2 : Int32) (0 : Int32) (0 : Int32) (0 : Int32) (0 : Int32) (0 : Int32) (0 : Int32) (0 : Int32) T164.heap n0 ZS164 Fs164 Fh164 Fn164 Vs164 Vh164 A2_165 gn_b2 gS gH ne_b2_aS ne_b2_aH neSH) hZ (hw _ (List.mem_of_getElem? (i := 56) rfl)) (hw _ (List.mem_of_getElem? (i := 7) rfl)) (by decide) (by decide)) q171a q171c (g := (mkF m 123 #[.val (.long q1), .second, .val (.long q2), .second, .val (.long uu), .second, .val (.int p3), .val (.long s0), .second, .val (.long s1), .second, .val (.int (6 : Int32)), .val (.ref b2), .unset, .unset, .unset, .unset, .unset] [(.long s0), (.ref b2)])) rfl (by rw [hml]; rfl) (Steps.refl _) (argsL := [(.long s0)]) (rest := []) (lenOf pd0_4 rfl) rfl (by show 2 * 0 + _ ≤ _; exact Nat.le_of_eq rfl) (hb hby at_123) (fun _ _ => ⟨rfl, rfl, (by decide : 3 + 0 ≤ _), (by decide : 19 + 0 ≤ _)⟩)
    dsimp only [Pt.U, Pt.locs, Pt.cells, Pt.slots] at X171 lq171 yq171 zq171 st171 hQ171
    subst lq171 yq171 zq171
    obtain ⟨rfl, Nq171, K171, Fs171, Fh171, Fn171, Vs171, Vh171⟩ := hQ171
    have A2_172 := (A2_165.keep K171)
    have ZS171 : n0 ≤ T171.heap.size := Nat.le_trans ZS164 K171.1
    have KC171 : Keep h0 T171.heap [] := KC164.trans K171 (allS (Or.inr sz_b2) (allS (Or.inr sz_aS) (allS (Or.inr sz_aH) all0)))
    have N171 := Fr.app N164 Nq171
    refine OGo.steps st171 ?_
    show OGo p e below _ (T171.setTop (mkF m 126 #[.val (.long q1), .second, .val (.long q2), .second, .val (.long uu), .second, .val (.int p3), .val (.long s0), .second, .val (.long s1), .second, .val (.int (6 : Int32)), .val (.ref b2), .unset, .unset, .unset, .unset, .unset] [(.int (0 : Int32))]))
    refine OGo.step (fun uK kK => XS.pop X171.here hx rfl (hb hby at_126) rfl rfl kK) ?_
    refine OGo.step (fun uK kK => XS.iload X171.here hx rfl (hb hby at_127) rfl kK) ?_
    refine OGo.step (fun uK kK => XS.iconst X171.here hx rfl (hb hby at_129) kK) ?_
    show OGo p e below _ (T171.setTop (mkF m 130 #[.val (.long q1), .second, .val (.long q2), .second, .val (.long uu), .second, .val (.int p3), .val (.long s0), .second, .val (.long s1), .second, .val (.int (6 : Int32)), .val (.ref b2), .unset, .unset, .unset, .unset, .unset] [(.int (5 : Int32)), (.int (6 : Int32))]))
    have hc130 : ¬ ((6 : Int32) = (5 : Int32)) := by decide
    refine OGo.step (fun uK kK => XS.icmpNo X171.here hx rfl (hb hby at_130) rfl (feq hc130).1 kK) ?_
    show OGo p e below _ (T171.setTop (mkF m 133 #[.val (.long q1), .second, .val (.long q2), .second, .val (.long uu), .second, .val (.int p3), .val (.long s0), .second, .val (.long s1), .second, .val (.int (6 : Int32)), .val (.ref b2), .unset, .unset, .unset, .unset, .unset] []))
    refine OGo.step (fun uK kK => XS.iload X171.here hx rfl (hb hby at_133) rfl kK) ?_
    refine OGo.step (fun uK kK => XS.bipush X171.here hx rfl (hb hby at_135) kK) ?_
    show OGo p e below _ (T171.setTop (mkF m 137 #[.val (.long q1), .second, .val (.long q2), .second, .val (.long uu), .second, .val (.int p3), .val (.long s0), .second, .val (.long s1), .second, .val (.int (6 : Int32)), .val (.ref b2), .unset, .unset, .unset, .unset, .unset] [(.int (7 : Int32)), (.int (6 : Int32))]))
    have hc137 : ¬ ((6 : Int32) = (7 : Int32)) := by decide
    refine OGo.step (fun uK kK => XS.icmpYes X171.here hx rfl (pc0 := 137) (pc' := 148) rfl (hb hby at_137) rfl (feq hc137).2 (by decide) (by decide) kK) ?_
    show OGo p e below _ (T171.setTop (mkF m 148 #[.val (.long q1), .second, .val (.long q2), .second, .val (.long uu), .second, .val (.int p3), .val (.long s0), .second, .val (.long s1), .second, .val (.int (6 : Int32)), .val (.ref b2), .unset, .unset, .unset, .unset, .unset] []))
    refine OGo.step (fun uK kK => XS.iload X171.here hx rfl (hb hby at_148) rfl kK) ?_
    refine OGo.step (fun uK kK => XS.iconst X171.here hx rfl (hb hby at_150) kK) ?_
    show OGo p e below _ (T171.setTop (mkF m 151 #[.val (.long q1), .second, .val (.long q2), .second, .val (.long uu), .second, .val (.int p3), .val (.long s0), .second, .val (.long s1), .second, .val (.int (6 : Int32)), .val (.ref b2), .unset, .unset, .unset, .unset, .unset] [(.int (1 : Int32)), (.int (6 : Int32))]))
    have hc151 : ¬ ((6 : Int32) = (1 : Int32)) := by decide
    refine OGo.step (fun uK kK => XS.icmpNo X171.here hx rfl (hb hby at_151) rfl (feq hc151).1 kK) ?_
    show OGo p e below _ (T171.setTop (mkF m 154 #[.val (.long q1), .second, .val (.long q2), .second, .val (.long uu), .second, .val (.int p3), .val (.long s0), .second, .val (.long s1), .second, .val (.int (6 : Int32)), .val (.ref b2), .unset, .unset, .unset, .unset, .unset] []))
    refine OGo.step (fun uK kK => XS.iload X171.here hx rfl (hb hby at_154) rfl kK) ?_
    refine OGo.step (fun uK kK => XS.iconst X171.here hx rfl (hb hby at_156) kK) ?_
    show OGo p e below _ (T171.setTop (mkF m 157 #[.val (.long q1), .second, .val (.long q2), .second, .val (.long uu), .second, .val (.int p3), .val (.long s0), .second, .val (.long s1), .second, .val (.int (6 : Int32)), .val (.ref b2), .unset, .unset, .unset, .unset, .unset] [(.int (2 : Int32)), (.int (6 : Int32))]))
    have hc157 : ¬ ((6 : Int32) = (2 : Int32)) := by decide
    refine OGo.step (fun uK kK => XS.icmpNo X171.here hx rfl (hb hby at_157) rfl (feq hc157).1 kK) ?_
    show OGo p e below _ (T171.setTop (mkF m 160 #[.val (.long q1), .second, .val (.long q2), .second, .val (.long uu), .second, .val (.int p3), .val (.long s0), .second, .val (.long s1), .second, .val (.int (6 : Int32)), .val (.ref b2), .unset, .unset, .unset, .unset, .unset] []))
    refine OGo.step (fun uK kK => XS.iload X171.here hx rfl (hb hby at_160) rfl kK) ?_
    refine OGo.step (fun uK kK => XS.iconst X171.here hx rfl (hb hby at_162) kK) ?_
    show OGo p e below _ (T171.setTop (mkF m 163 #[.val (.long q1), .second, .val (.long q2), .second, .val (.long uu), .second, .val (.int p3), .val (.long s0), .second, .val (.long s1), .second, .val (.int (6 : Int32)), .val (.ref b2), .unset, .unset, .unset, .unset, .unset] [(.int (3 : Int32)), (.int (6 : Int32))]))
    have hc163 : ¬ ((6 : Int32) = (3 : Int32)) := by decide
    refine OGo.step (fun uK kK => XS.icmpNo X171.here hx rfl (hb hby at_163) rfl (feq hc163).1 kK) ?_
    show OGo p e below _ (T171.setTop (mkF m 166 #[.val (.long q1), .second, .val (.long q2), .second, .val (.long uu), .second, .val (.int p3), .val (.long s0), .second, .val (.long s1), .second, .val (.int (6 : Int32)), .val (.ref b2), .unset, .unset, .unset, .unset, .unset] []))
    refine OGo.step (fun uK kK => XS.iload X171.here hx rfl (hb hby at_166) rfl kK) ?_
    refine OGo.step (fun uK kK => XS.iconst X171.here hx rfl (hb hby at_168) kK) ?_
    show OGo p e below _ (T171.setTop (mkF m 169 #[.val (.long q1), .second, .val (.long q2), .second, .val (.long uu), .second, .val (.int p3), .val (.long s0), .second, .val (.long s1), .second, .val (.int (6 : Int32)), .val (.ref b2), .unset, .unset, .unset, .unset, .unset] [(.int (5 : Int32)), (.int (6 : Int32))]))
    have hc169 : ¬ ((6 : Int32) = (5 : Int32)) := by decide
    refine OGo.step (fun uK kK => XS.icmpNo X171.here hx rfl (hb hby at_169) rfl (feq hc169).1 kK) ?_
    show OGo p e below _ (T171.setTop (mkF m 172 #[.val (.long q1), .second, .val (.long q2), .second, .val (.long uu), .second, .val (.int p3), .val (.long s0), .second, .val (.long s1), .second, .val (.int (6 : Int32)), .val (.ref b2), .unset, .unset, .unset, .unset, .unset] []))
    refine OGo.step (fun uK kK => XS.iload X171.here hx rfl (hb hby at_172) rfl kK) ?_
    refine OGo.step (fun uK kK => XS.bipush X171.here hx rfl (hb hby at_174) kK) ?_
    show OGo p e below _ (T171.setTop (mkF m 176 #[.val (.long q1), .second, .val (.long q2), .second, .val (.long uu), .second, .val (.int p3), .val (.long s0), .second, .val (.long s1), .second, .val (.int (6 : Int32)), .val (.ref b2), .unset, .unset, .unset, .unset, .unset] [(.int (6 : Int32)), (.int (6 : Int32))]))
    have hc176 : (6 : Int32) = (6 : Int32) := by decide
    refine OGo.step (fun uK kK => XS.icmpNo X171.here hx rfl (hb hby at_176) rfl (teq hc176).2 kK) ?_
    show OGo p e below _ (T171.setTop (mkF m 179 #[.val (.long q1), .second, .val (.long q2), .second, .val (.long uu), .second, .val (.int p3), .val (.long s0), .second, .val (.long s1), .second, .val (.int (6 : Int32)), .val (.ref b2), .unset, .unset, .unset, .unset, .unset] []))
    refine OGo.step (fun uK kK => XS.iconst X171.here hx rfl (hb hby at_179) kK) ?_
    show OGo p e below _ (T171.setTop (mkF m 180 #[.val (.long q1), .second, .val (.long q2), .second, .val (.long uu), .second, .val (.int p3), .val (.long s0), .second, .val (.long s1), .second, .val (.int (6 : Int32)), .val (.ref b2), .unset, .unset, .unset, .unset, .unset] [(.int (1 : Int32))]))
    refine OGo.step (fun uK kK => XS.goto X171.here hx rfl (pc0 := 180) (pc' := 184) rfl (hb hby at_180) (by decide) (by decide) kK) ?_
    show OGo p e below _ (T171.setTop (mkF m 184 #[.val (.long q1), .second, .val (.long q2), .second, .val (.long uu), .second, .val (.int p3), .val (.long s0), .second, .val (.long s1), .second, .val (.int (6 : Int32)), .val (.ref b2), .unset, .unset, .unset, .unset, .unset] [(.int (1 : Int32))]))
    refine OGo.step (fun uK kK => XS.istore X171.here hx rfl (hb hby at_184) rfl (l' := #[.val (.long q1), .second, .val (.long q2), .second, .val (.long uu), .second, .val (.int p3), .val (.long s0), .second, .val (.long s1), .second, .val (.int (6 : Int32)), .val (.ref b2), .val (.int (1 : Int32)), .unset, .unset, .unset, .unset]) rfl kK) ?_
    refine OGo.step (fun uK kK => XS.iload X171.here hx rfl (hb hby at_186) rfl kK) ?_
    refine OGo.step (fun uK kK => XS.iconst X171.here hx rfl (hb hby at_188) kK) ?_
    show OGo p e below _ (T171.setTop (mkF m 189 #[.val (.long q1), .second, .val (.long q2), .second, .val (.long uu), .second, .val (.int p3), .val (.long s0), .second, .val (.long s1), .second, .val (.int (6 : Int32)), .val (.ref b2), .val (.int (1 : Int32)), .unset, .unset, .unset, .unset] [(.int (3 : Int32)), (.int (6 : Int32))]))
    have hc189 : ¬ ((6 : Int32) = (3 : Int32)) := by decide
    refine OGo.step (fun uK kK => XS.icmpYes X171.here hx rfl (pc0 := 189) (pc' := 197) rfl (hb hby at_189) rfl (feq hc189).2 (by decide) (by decide) kK) ?_
    show OGo p e below _ (T171.setTop (mkF m 197 #[.val (.long q1), .second, .val (.long q2), .second, .val (.long uu), .second, .val (.int p3), .val (.long s0), .second, .val (.long s1), .second, .val (.int (6 : Int32)), .val (.ref b2), .val (.int (1 : Int32)), .unset, .unset, .unset, .unset] []))
    refine OGo.step (fun uK kK => XS.lload X171.here hx rfl (hb hby at_197) rfl kK) ?_
    show OGo p e below _ (T171.setTop (mkF m 199 #[.val (.long q1), .second, .val (.long q2), .second, .val (.long uu), .second, .val (.int p3), .val (.long s0), .second, .val (.long s1), .second, .val (.int (6 : Int32)), .val (.ref b2), .val (.int (1 : Int32)), .unset, .unset, .unset, .unset] [(.long s0)]))
    refine OGo.step (fun uK kK => XS.lstore X171.here hx rfl (hb hby at_199) rfl (l' := #[.val (.long q1), .second, .val (.long q2), .second, .val (.long uu), .second, .val (.int p3), .val (.long s0), .second, .val (.long s1), .second, .val (.int (6 : Int32)), .val (.ref b2), .val (.int (1 : Int32)), .val (.long s0), .second, .unset, .unset]) rfl kK) ?_
    refine OGo.step (fun uK kK => XS.iload X171.here hx rfl (hb hby at_201) rfl kK) ?_
    show OGo p e below _ (T171.setTop (mkF m 203 #[.val (.long q1), .second, .val (.long q2), .second, .val (.long uu), .second, .val (.int p3), .val (.long s0), .second, .val (.long s1), .second, .val (.int (6 : Int32)), .val (.ref b2), .val (.int (1 : Int32)), .val (.long s0), .second, .unset, .unset] [(.int (1 : Int32))]))
    have hc203 : ¬ ((1 : Int32) = (0 : Int32)) := by decide
    refine OGo.step (fun uK kK => XS.ifYes X171.here hx rfl (pc0 := 203) (pc' := 214) rfl (hb hby at_203) rfl ((if0 _ _).trans (feq hc203).2) (by decide) (by decide) kK) ?_
    show OGo p e below _ (T171.setTop (mkF m 214 #[.val (.long q1), .second, .val (.long q2), .second, .val (.long uu), .second, .val (.int p3), .val (.long s0), .second, .val (.long s1), .second, .val (.int (6 : Int32)), .val (.ref b2), .val (.int (1 : Int32)), .val (.long s0), .second, .unset, .unset] []))
    refine OGo.step (fun uK kK => XS.lload X171.here hx rfl (hb hby at_214) rfl kK) ?_
    refine OGo.step (fun uK kK => XS.lload X171.here hx rfl (hb hby at_216) rfl kK) ?_
    show OGo p e below _ (T171.setTop (mkF m 218 #[.val (.long q1), .second, .val (.long q2), .second, .val (.long uu), .second, .val (.int p3), .val (.long s0), .second, .val (.long s1), .second, .val (.int (6 : Int32)), .val (.ref b2), .val (.int (1 : Int32)), .val (.long s0), .second, .unset, .unset] [(.long uu), (.long s0)]))
    refine OGo.step (fun uK kK => XS.lcmp X171.here hx rfl (hb hby at_218) rfl kK) ?_
    show OGo p e below _ (T171.setTop (mkF m 219 #[.val (.long q1), .second, .val (.long q2), .second, .val (.long uu), .second, .val (.int p3), .val (.long s0), .second, .val (.long s1), .second, .val (.int (6 : Int32)), .val (.ref b2), .val (.int (1 : Int32)), .val (.long s0), .second, .unset, .unset] [(.int (lcmpW s0 uu))]))
    refine OGo.step (t' := T171.setTop (mkF m 234 #[.val (.long q1), .second, .val (.long q2), .second, .val (.long uu), .second, .val (.int p3), .val (.long s0), .second, .val (.long s1), .second, .val (.int (6 : Int32)), .val (.ref b2), .val (.int (1 : Int32)), .val (.long s0), .second, .val (.long (if s0 < uu then s0 else (-1 : Int64))), .second] [])) (fun uK kK => ?_) ?_
    · show Steps p.tables e below (T171.setTop (mkF m 219 #[.val (.long q1), .second, .val (.long q2), .second, .val (.long uu), .second, .val (.int p3), .val (.long s0), .second, .val (.long s1), .second, .val (.int (6 : Int32)), .val (.ref b2), .val (.int (1 : Int32)), .val (.long s0), .second, .unset, .unset] [(.int (lcmpW s0 uu))])) _
      by_cases hm219_178 : s0 < uu
      · try rw [if_pos hm219_178] at kK
        refine XS.ifNo X171.here hx rfl (hb hby at_219) rfl ((if0 _ _).trans (tlt ((lw_lt _ _).mpr hm219_178)).2.1) ?_
        refine XS.lload X171.here hx rfl (hb hby at_222) rfl ?_
        show Steps p.tables e below (T171.setTop (mkF m 224 #[.val (.long q1), .second, .val (.long q2), .second, .val (.long uu), .second, .val (.int p3), .val (.long s0), .second, .val (.long s1), .second, .val (.int (6 : Int32)), .val (.ref b2), .val (.int (1 : Int32)), .val (.long s0), .second, .unset, .unset] [(.long s0)])) _
        refine XS.lstore X171.here hx rfl (hb hby at_224) rfl (l' := #[.val (.long q1), .second, .val (.long q2), .second, .val (.long uu), .second, .val (.int p3), .val (.long s0), .second, .val (.long s1), .second, .val (.int (6 : Int32)), .val (.ref b2), .val (.int (1 : Int32)), .val (.long s0), .second, .val (.long s0), .second]) rfl ?_
        show Steps p.tables e below (T171.setTop (mkF m 226 #[.val (.long q1), .second, .val (.long q2), .second, .val (.long uu), .second, .val (.int p3), .val (.long s0), .second, .val (.long s1), .second, .val (.int (6 : Int32)), .val (.ref b2), .val (.int (1 : Int32)), .val (.long s0), .second, .val (.long s0), .second] [])) _
        refine XS.goto X171.here hx rfl (pc0 := 226) (pc' := 234) rfl (hb hby at_226) (by decide) (by decide) ?_
        show Steps p.tables e below (T171.setTop (mkF m 234 #[.val (.long q1), .second, .val (.long q2), .second, .val (.long uu), .second, .val (.int p3), .val (.long s0), .second, .val (.long s1), .second, .val (.int (6 : Int32)), .val (.ref b2), .val (.int (1 : Int32)), .val (.long s0), .second, .val (.long s0), .second] [])) _
        exact kK
      · try rw [if_neg hm219_178] at kK
        refine XS.ifYes X171.here hx rfl (pc0 := 219) (pc' := 229) rfl (hb hby at_219) rfl ((if0 _ _).trans (flt (fun q => hm219_178 ((lw_lt _ _).mp q))).2.1) (by decide) (by decide) ?_
        refine X171.ldc2J hx hown (mvT hZ (hw _ (List.mem_of_getElem? (i := 45) rfl))) rfl (hb hby at_229) ?_
        show Steps p.tables e below (T171.setTop (mkF m 232 #[.val (.long q1), .second, .val (.long q2), .second, .val (.long uu), .second, .val (.int p3), .val (.long s0), .second, .val (.long s1), .second, .val (.int (6 : Int32)), .val (.ref b2), .val (.int (1 : Int32)), .val (.long s0), .second, .unset, .unset] [(.long (-1 : Int64))])) _
        refine XS.lstore X171.here hx rfl (hb hby at_232) rfl (l' := #[.val (.long q1), .second, .val (.long q2), .second, .val (.long uu), .second, .val (.int p3), .val (.long s0), .second, .val (.long s1), .second, .val (.int (6 : Int32)), .val (.ref b2), .val (.int (1 : Int32)), .val (.long s0), .second, .val (.long (-1 : Int64)), .second]) rfl ?_
        show Steps p.tables e below (T171.setTop (mkF m 234 #[.val (.long q1), .second, .val (.long q2), .second, .val (.long uu), .second, .val (.int p3), .val (.long s0), .second, .val (.long s1), .second, .val (.int (6 : Int32)), .val (.ref b2), .val (.int (1 : Int32)), .val (.long s0), .second, .val (.long (-1 : Int64)), .second] [])) _
        exact kK
    show OGo p e below _ (T171.setTop (mkF m 234 #[.val (.long q1), .second, .val (.long q2), .second, .val (.long uu), .second, .val (.int p3), .val (.long s0), .second, .val (.long s1), .second, .val (.int (6 : Int32)), .val (.ref b2), .val (.int (1 : Int32)), .val (.long s0), .second, .val (.long (if s0 < uu then s0 else (-1 : Int64))), .second] []))
    refine OGo.step (fun uK kK => XS.aload X171.here hx rfl (hb hby at_234) rfl rfl kK) ?_
    refine OGo.step (fun uK kK => XS.lload X171.here hx rfl (hb hby at_236) rfl kK) ?_
    show OGo p e below _ (T171.setTop (mkF m 238 #[.val (.long q1), .second, .val (.long q2), .second, .val (.long uu), .second, .val (.int p3), .val (.long s0), .second, .val (.long s1), .second, .val (.int (6 : Int32)), .val (.ref b2), .val (.int (1 : Int32)), .val (.long s0), .second, .val (.long (if s0 < uu then s0 else (-1 : Int64))), .second] [(.long uu), (.ref b2)]))
    obtain ⟨cq179, kq179, q179a, q179b, q179c⟩ := isOf hZ rfl A2_172
    obtain ⟨_, _, ⟨T179, Lq179, kq_179, nq_179⟩, -, X179, ⟨Lc179, hQ179, lq179, yq179, zq179⟩, st179⟩ := X171.virtualBack hx (y := (⟨"com/example/graph_of_conflicts/graphofconflicts/engine/OpenSnapshots", "earliestBefore", "(J)J"⟩ : MethodName)) (z := (⟨"com/example/graph_of_conflicts/graphofconflicts/engine/OpenSnapshots", "earliestBefore", "(J)J"⟩ : MethodName)) hown (mvT hZ (hw _ (List.mem_of_getElem? (i := 46) rfl))) (mvT hZ (hw _ (List.mem_of_getElem? (i := 47) rfl))) (notFace_of_selects (args := #[]) (mvT hZ (hw _ (List.mem_of_getElem? (i := 49) rfl)))) (mvT hZ (hw _ (List.mem_of_getElem? (i := 49) rfl))) (mvT hZ (hw _ (List.mem_of_getElem? (i := 48) rfl))) (by decide) (backOf (W := 0) (rme1 l Z a0 hw [] b2 uu aS kS s0 (0 : Int64) (0 : Int64) (0 : Int64) (0 : Int64) (0 : Int64) (0 : Int64) (0 : Int64) T171.heap n0 ZS171 Fs171 Fn171 Vs171) hZ (hw _ (List.mem_of_getElem? (i := 50) rfl)) (hw _ (List.mem_of_getElem? (i := 7) rfl)) (by decide) (by decide)) q179a q179c (g := (mkF m 238 #[.val (.long q1), .second, .val (.long q2), .second, .val (.long uu), .second, .val (.int p3), .val (.long s0), .second, .val (.long s1), .second, .val (.int (6 : Int32)), .val (.ref b2), .val (.int (1 : Int32)), .val (.long s0), .second, .val (.long (if s0 < uu then s0 else (-1 : Int64))), .second] [(.long uu), (.ref b2)])) rfl (by rw [hml]; rfl) (Steps.refl _) (argsL := [(.long uu)]) (rest := []) (lenOf pd0_2 rfl) rfl (by show 2 * 0 + _ ≤ _; exact Nat.le_of_eq rfl) (hb hby at_238) (fun _ _ => ⟨rfl, rfl, (by decide : 3 + 0 ≤ _), (by decide : 19 + 0 ≤ _)⟩)
    dsimp only [Pt.U, Pt.locs, Pt.cells, Pt.slots] at X179 lq179 yq179 zq179 st179 hQ179
    subst lq179 yq179 zq179
    obtain ⟨rfl, Nq179, e179⟩ := hQ179
    have N179 := Fr.app N171 Nq179
    refine OGo.steps st179 ?_
    show OGo p e below _ (T179.setTop (mkF m 241 #[.val (.long q1), .second, .val (.long q2), .second, .val (.long uu), .second, .val (.int p3), .val (.long s0), .second, .val (.long s1), .second, .val (.int (6 : Int32)), .val (.ref b2), .val (.int (1 : Int32)), .val (.long s0), .second, .val (.long (if s0 < uu then s0 else (-1 : Int64))), .second] [(.long (if s0 < uu then s0 else (-1 : Int64)))]))
    refine OGo.step (fun uK kK => XS.lload X179.here hx rfl (hb hby at_241) rfl kK) ?_
    show OGo p e below _ (T179.setTop (mkF m 243 #[.val (.long q1), .second, .val (.long q2), .second, .val (.long uu), .second, .val (.int p3), .val (.long s0), .second, .val (.long s1), .second, .val (.int (6 : Int32)), .val (.ref b2), .val (.int (1 : Int32)), .val (.long s0), .second, .val (.long (if s0 < uu then s0 else (-1 : Int64))), .second] [(.long (if s0 < uu then s0 else (-1 : Int64))), (.long (if s0 < uu then s0 else (-1 : Int64)))]))
    refine OGo.step (fun uK kK => XS.lcmp X179.here hx rfl (hb hby at_243) rfl kK) ?_
    show OGo p e below _ (T179.setTop (mkF m 244 #[.val (.long q1), .second, .val (.long q2), .second, .val (.long uu), .second, .val (.int p3), .val (.long s0), .second, .val (.long s1), .second, .val (.int (6 : Int32)), .val (.ref b2), .val (.int (1 : Int32)), .val (.long s0), .second, .val (.long (if s0 < uu then s0 else (-1 : Int64))), .second] [(.int (lcmpW (if s0 < uu then s0 else (-1 : Int64)) (if s0 < uu then s0 else (-1 : Int64))))]))
    have hc244 : (if s0 < uu then s0 else (-1 : Int64)) = (if s0 < uu then s0 else (-1 : Int64)) := rfl
    refine OGo.step (fun uK kK => XS.ifNo X179.here hx rfl (hb hby at_244) rfl ((if0 _ _).trans (teq ((lw_eq _ _).mpr hc244)).2) kK) ?_
    show OGo p e below _ (T179.setTop (mkF m 247 #[.val (.long q1), .second, .val (.long q2), .second, .val (.long uu), .second, .val (.int p3), .val (.long s0), .second, .val (.long s1), .second, .val (.int (6 : Int32)), .val (.ref b2), .val (.int (1 : Int32)), .val (.long s0), .second, .val (.long (if s0 < uu then s0 else (-1 : Int64))), .second] []))
    refine OGo.step (fun uK kK => XS.iconst X179.here hx rfl (hb hby at_247) kK) ?_
    show OGo p e below _ (T179.setTop (mkF m 248 #[.val (.long q1), .second, .val (.long q2), .second, .val (.long uu), .second, .val (.int p3), .val (.long s0), .second, .val (.long s1), .second, .val (.int (6 : Int32)), .val (.ref b2), .val (.int (1 : Int32)), .val (.long s0), .second, .val (.long (if s0 < uu then s0 else (-1 : Int64))), .second] [(.int (1 : Int32))]))
    refine OGo.step (fun uK kK => XS.goto X179.here hx rfl (pc0 := 248) (pc' := 252) rfl (hb hby at_248) (by decide) (by decide) kK) ?_
    show OGo p e below _ (T179.setTop (mkF m 252 #[.val (.long q1), .second, .val (.long q2), .second, .val (.long uu), .second, .val (.int p3), .val (.long s0), .second, .val (.long s1), .second, .val (.int (6 : Int32)), .val (.ref b2), .val (.int (1 : Int32)), .val (.long s0), .second, .val (.long (if s0 < uu then s0 else (-1 : Int64))), .second] [(.int (1 : Int32))]))
    exact OGo.retN X179 hx Bd.notSynchronized (t := .boolean) Bd.returns (by simp) (hb hby at_252) (by decide) (by decide) (by show Q0 Z q1 q2 uu p3 h0 n0 _ T179.heap _; rw [e179]; exact ⟨rfl, N179⟩)
  · skip
    subst h
    show OGo p e below _ (T3.setTop (mkF m 35 #[.val (.long q1), .second, .val (.long q2), .second, .val (.long uu), .second, .val (.int p3), .val (.long s0), .second, .val (.long s1), .second, .val (.int (7 : Int32)), .val (.ref b2), .unset, .unset, .unset, .unset, .unset] []))
    rcases own_max s0 _ s1 ev_s1 with hlt | heq
    · skip
      refine OGo.step (fun uK kK => XS.iload X3.here hx rfl (hb hby at_35) rfl kK) ?_
      show OGo p e below _ (T3.setTop (mkF m 37 #[.val (.long q1), .second, .val (.long q2), .second, .val (.long uu), .second, .val (.int p3), .val (.long s0), .second, .val (.long s1), .second, .val (.int (7 : Int32)), .val (.ref b2), .unset, .unset, .unset, .unset, .unset] [(.int (7 : Int32))]))
      have hc37 : ¬ ((7 : Int32) = (0 : Int32)) := by decide
      refine OGo.step (fun uK kK => XS.ifNo X3.here hx rfl (hb hby at_37) rfl ((if0 _ _).trans (feq hc37).1) kK) ?_
      show OGo p e below _ (T3.setTop (mkF m 40 #[.val (.long q1), .second, .val (.long q2), .second, .val (.long uu), .second, .val (.int p3), .val (.long s0), .second, .val (.long s1), .second, .val (.int (7 : Int32)), .val (.ref b2), .unset, .unset, .unset, .unset, .unset] []))
      refine OGo.step (fun uK kK => XS.aload X3.here hx rfl (hb hby at_40) rfl rfl kK) ?_
      refine OGo.step (fun uK kK => XS.lload X3.here hx rfl (hb hby at_42) rfl kK) ?_
      show OGo p e below _ (T3.setTop (mkF m 44 #[.val (.long q1), .second, .val (.long q2), .second, .val (.long uu), .second, .val (.int p3), .val (.long s0), .second, .val (.long s1), .second, .val (.int (7 : Int32)), .val (.ref b2), .unset, .unset, .unset, .unset, .unset] [(.long s0), (.ref b2)]))
      obtain ⟨cq180, kq180, q180a, q180b, q180c⟩ := isOf hZ rfl A2_4
      obtain ⟨_, _, ⟨T180, Lq180, kq_180, nq_180⟩, -, X180, ⟨Lc180, hQ180, lq180, yq180, zq180⟩, st180⟩ := X3.virtualBack hx (y := (⟨"com/example/graph_of_conflicts/graphofconflicts/engine/OpenSnapshots", "add", "(J)V"⟩ : MethodName)) (z := (⟨"com/example/graph_of_conflicts/graphofconflicts/engine/OpenSnapshots", "add", "(J)V"⟩ : MethodName)) hown (mvT hZ (hw _ (List.mem_of_getElem? (i := 20) rfl))) (mvT hZ (hw _ (List.mem_of_getElem? (i := 21) rfl))) (notFace_of_selects (args := #[]) (mvT hZ (hw _ (List.mem_of_getElem? (i := 23) rfl)))) (mvT hZ (hw _ (List.mem_of_getElem? (i := 23) rfl))) (mvT hZ (hw _ (List.mem_of_getElem? (i := 22) rfl))) (by decide) (backOf (W := 0) (rma0 l Z a0 hw [] b2 aS kS (0 : Int64) (0 : Int64) (0 : Int64) (0 : Int64) (0 : Int64) (0 : Int64) (0 : Int64) (0 : Int64) aH kH (0 : Int32) (0 : Int32) (0 : Int32) (0 : Int32) (0 : Int32) (0 : Int32) (0 : Int32) (0 : Int32) s0 T3.heap n0 ZS3 Fs3 Fh3 Fn3 Vs3 Vh3 A2_4 gn_b2 gS gH ne_b2_aS ne_b2_aH neSH) hZ (hw _ (List.mem_of_getElem? (i := 24) rfl)) (hw _ (List.mem_of_getElem? (i := 7) rfl)) (by decide) (by decide)) q180a q180c (g := (mkF m 44 #[.val (.long q1), .second, .val (.long q2), .second, .val (.long uu), .second, .val (.int p3), .val (.long s0), .second, .val (.long s1), .second, .val (.int (7 : Int32)), .val (.ref b2), .unset, .unset, .unset, .unset, .unset] [(.long s0), (.ref b2)])) rfl (by rw [hml]; rfl) (Steps.refl _) (argsL := [(.long s0)]) (rest := []) (lenOf pd0_3 rfl) rfl (by show 2 * 0 + _ ≤ _; exact Nat.le_of_eq rfl) (hb hby at_44) (fun _ _ => ⟨rfl, rfl, (by decide : 3 + 0 ≤ _), (by decide : 19 + 0 ≤ _)⟩)
      dsimp only [Pt.U, Pt.locs, Pt.cells, Pt.slots] at X180 lq180 yq180 zq180 st180 hQ180
      subst lq180 yq180 zq180
      obtain ⟨rfl, Nq180, K180, Fs180, Fh180, Fn180, Vs180, Vh180⟩ := hQ180
      have A2_181 := (A2_4.keep K180)
      have ZS180 : n0 ≤ T180.heap.size := Nat.le_trans ZS3 K180.1
      have KC180 : Keep h0 T180.heap [] := KC3.trans K180 (allS (Or.inr sz_b2) (allS (Or.inr sz_aS) (allS (Or.inr sz_aH) all0)))
      have N180 := Fr.app N3 Nq180
      refine OGo.steps st180 ?_
      show OGo p e below _ (T180.setTop (mkF m 47 #[.val (.long q1), .second, .val (.long q2), .second, .val (.long uu), .second, .val (.int p3), .val (.long s0), .second, .val (.long s1), .second, .val (.int (7 : Int32)), .val (.ref b2), .unset, .unset, .unset, .unset, .unset] []))
      refine OGo.step (fun uK kK => XS.iload X180.here hx rfl (hb hby at_47) rfl kK) ?_
      refine OGo.step (fun uK kK => XS.iconst X180.here hx rfl (hb hby at_49) kK) ?_
      show OGo p e below _ (T180.setTop (mkF m 50 #[.val (.long q1), .second, .val (.long q2), .second, .val (.long uu), .second, .val (.int p3), .val (.long s0), .second, .val (.long s1), .second, .val (.int (7 : Int32)), .val (.ref b2), .unset, .unset, .unset, .unset, .unset] [(.int (2 : Int32)), (.int (7 : Int32))]))
      have hc50 : ¬ ((7 : Int32) = (2 : Int32)) := by decide
      refine OGo.step (fun uK kK => XS.icmpNo X180.here hx rfl (hb hby at_50) rfl (feq hc50).1 kK) ?_
      show OGo p e below _ (T180.setTop (mkF m 53 #[.val (.long q1), .second, .val (.long q2), .second, .val (.long uu), .second, .val (.int p3), .val (.long s0), .second, .val (.long s1), .second, .val (.int (7 : Int32)), .val (.ref b2), .unset, .unset, .unset, .unset, .unset] []))
      refine OGo.step (fun uK kK => XS.iload X180.here hx rfl (hb hby at_53) rfl kK) ?_
      refine OGo.step (fun uK kK => XS.iconst X180.here hx rfl (hb hby at_55) kK) ?_
      show OGo p e below _ (T180.setTop (mkF m 56 #[.val (.long q1), .second, .val (.long q2), .second, .val (.long uu), .second, .val (.int p3), .val (.long s0), .second, .val (.long s1), .second, .val (.int (7 : Int32)), .val (.ref b2), .unset, .unset, .unset, .unset, .unset] [(.int (3 : Int32)), (.int (7 : Int32))]))
      have hc56 : ¬ ((7 : Int32) = (3 : Int32)) := by decide
      refine OGo.step (fun uK kK => XS.icmpNo X180.here hx rfl (hb hby at_56) rfl (feq hc56).1 kK) ?_
      show OGo p e below _ (T180.setTop (mkF m 59 #[.val (.long q1), .second, .val (.long q2), .second, .val (.long uu), .second, .val (.int p3), .val (.long s0), .second, .val (.long s1), .second, .val (.int (7 : Int32)), .val (.ref b2), .unset, .unset, .unset, .unset, .unset] []))
      refine OGo.step (fun uK kK => XS.iload X180.here hx rfl (hb hby at_59) rfl kK) ?_
      refine OGo.step (fun uK kK => XS.iconst X180.here hx rfl (hb hby at_61) kK) ?_
      show OGo p e below _ (T180.setTop (mkF m 62 #[.val (.long q1), .second, .val (.long q2), .second, .val (.long uu), .second, .val (.int p3), .val (.long s0), .second, .val (.long s1), .second, .val (.int (7 : Int32)), .val (.ref b2), .unset, .unset, .unset, .unset, .unset] [(.int (5 : Int32)), (.int (7 : Int32))]))
      have hc62 : ¬ ((7 : Int32) = (5 : Int32)) := by decide
      refine OGo.step (fun uK kK => XS.icmpNo X180.here hx rfl (hb hby at_62) rfl (feq hc62).1 kK) ?_
      show OGo p e below _ (T180.setTop (mkF m 65 #[.val (.long q1), .second, .val (.long q2), .second, .val (.long uu), .second, .val (.int p3), .val (.long s0), .second, .val (.long s1), .second, .val (.int (7 : Int32)), .val (.ref b2), .unset, .unset, .unset, .unset, .unset] []))
      refine OGo.step (fun uK kK => XS.iload X180.here hx rfl (hb hby at_65) rfl kK) ?_
      refine OGo.step (fun uK kK => XS.bipush X180.here hx rfl (hb hby at_67) kK) ?_
      show OGo p e below _ (T180.setTop (mkF m 69 #[.val (.long q1), .second, .val (.long q2), .second, .val (.long uu), .second, .val (.int p3), .val (.long s0), .second, .val (.long s1), .second, .val (.int (7 : Int32)), .val (.ref b2), .unset, .unset, .unset, .unset, .unset] [(.int (7 : Int32)), (.int (7 : Int32))]))
      have hc69 : (7 : Int32) = (7 : Int32) := by decide
      refine OGo.step (fun uK kK => XS.icmpNo X180.here hx rfl (hb hby at_69) rfl (teq hc69).2 kK) ?_
      show OGo p e below _ (T180.setTop (mkF m 72 #[.val (.long q1), .second, .val (.long q2), .second, .val (.long uu), .second, .val (.int p3), .val (.long s0), .second, .val (.long s1), .second, .val (.int (7 : Int32)), .val (.ref b2), .unset, .unset, .unset, .unset, .unset] []))
      refine OGo.step (fun uK kK => XS.aload X180.here hx rfl (hb hby at_72) rfl rfl kK) ?_
      refine OGo.step (fun uK kK => XS.lload X180.here hx rfl (hb hby at_74) rfl kK) ?_
      show OGo p e below _ (T180.setTop (mkF m 76 #[.val (.long q1), .second, .val (.long q2), .second, .val (.long uu), .second, .val (.int p3), .val (.long s0), .second, .val (.long s1), .second, .val (.int (7 : Int32)), .val (.ref b2), .unset, .unset, .unset, .unset, .unset] [(.long s1), (.ref b2)]))
      obtain ⟨cq187, kq187, q187a, q187b, q187c⟩ := isOf hZ rfl A2_181
      obtain ⟨_, _, ⟨T187, Lq187, kq_187, nq_187⟩, -, X187, ⟨Lc187, hQ187, lq187, yq187, zq187⟩, st187⟩ := X180.virtualBack hx (y := (⟨"com/example/graph_of_conflicts/graphofconflicts/engine/OpenSnapshots", "add", "(J)V"⟩ : MethodName)) (z := (⟨"com/example/graph_of_conflicts/graphofconflicts/engine/OpenSnapshots", "add", "(J)V"⟩ : MethodName)) hown (mvT hZ (hw _ (List.mem_of_getElem? (i := 20) rfl))) (mvT hZ (hw _ (List.mem_of_getElem? (i := 21) rfl))) (notFace_of_selects (args := #[]) (mvT hZ (hw _ (List.mem_of_getElem? (i := 23) rfl)))) (mvT hZ (hw _ (List.mem_of_getElem? (i := 23) rfl))) (mvT hZ (hw _ (List.mem_of_getElem? (i := 22) rfl))) (by decide) (backOf (W := 0) (rma1 l Z a0 hw [] b2 aS kS s0 (0 : Int64) (0 : Int64) (0 : Int64) (0 : Int64) (0 : Int64) (0 : Int64) (0 : Int64) aH kH (1 : Int32) (0 : Int32) (0 : Int32) (0 : Int32) (0 : Int32) (0 : Int32) (0 : Int32) (0 : Int32) s1 T180.heap n0 ZS180 Fs180 Fh180 Fn180 Vs180 Vh180 A2_181 gn_b2 gS gH ne_b2_aS ne_b2_aH neSH hlt) hZ (hw _ (List.mem_of_getElem? (i := 24) rfl)) (hw _ (List.mem_of_getElem? (i := 7) rfl)) (by decide) (by decide)) q187a q187c (g := (mkF m 76 #[.val (.long q1), .second, .val (.long q2), .second, .val (.long uu), .second, .val (.int p3), .val (.long s0), .second, .val (.long s1), .second, .val (.int (7 : Int32)), .val (.ref b2), .unset, .unset, .unset, .unset, .unset] [(.long s1), (.ref b2)])) rfl (by rw [hml]; rfl) (Steps.refl _) (argsL := [(.long s1)]) (rest := []) (lenOf pd0_3 rfl) rfl (by show 2 * 0 + _ ≤ _; exact Nat.le_of_eq rfl) (hb hby at_76) (fun _ _ => ⟨rfl, rfl, (by decide : 3 + 0 ≤ _), (by decide : 19 + 0 ≤ _)⟩)
      dsimp only [Pt.U, Pt.locs, Pt.cells, Pt.slots] at X187 lq187 yq187 zq187 st187 hQ187
      subst lq187 yq187 zq187
      obtain ⟨rfl, Nq187, K187, Fs187, Fh187, Fn187, Vs187, Vh187⟩ := hQ187
      have A2_188 := (A2_181.keep K187)
      have ZS187 : n0 ≤ T187.heap.size := Nat.le_trans ZS180 K187.1
      have KC187 : Keep h0 T187.heap [] := KC180.trans K187 (allS (Or.inr sz_b2) (allS (Or.inr sz_aS) (allS (Or.inr sz_aH) all0)))
      have N187 := Fr.app N180 Nq187
      refine OGo.steps st187 ?_
      show OGo p e below _ (T187.setTop (mkF m 79 #[.val (.long q1), .second, .val (.long q2), .second, .val (.long uu), .second, .val (.int p3), .val (.long s0), .second, .val (.long s1), .second, .val (.int (7 : Int32)), .val (.ref b2), .unset, .unset, .unset, .unset, .unset] []))
      refine OGo.step (fun uK kK => XS.iload X187.here hx rfl (hb hby at_79) rfl kK) ?_
      refine OGo.step (fun uK kK => XS.bipush X187.here hx rfl (hb hby at_81) kK) ?_
      show OGo p e below _ (T187.setTop (mkF m 83 #[.val (.long q1), .second, .val (.long q2), .second, .val (.long uu), .second, .val (.int p3), .val (.long s0), .second, .val (.long s1), .second, .val (.int (7 : Int32)), .val (.ref b2), .unset, .unset, .unset, .unset, .unset] [(.int (6 : Int32)), (.int (7 : Int32))]))
      have hc83 : ¬ ((7 : Int32) = (6 : Int32)) := by decide
      refine OGo.step (fun uK kK => XS.icmpYes X187.here hx rfl (pc0 := 83) (pc' := 93) rfl (hb hby at_83) rfl (feq hc83).2 (by decide) (by decide) kK) ?_
      show OGo p e below _ (T187.setTop (mkF m 93 #[.val (.long q1), .second, .val (.long q2), .second, .val (.long uu), .second, .val (.int p3), .val (.long s0), .second, .val (.long s1), .second, .val (.int (7 : Int32)), .val (.ref b2), .unset, .unset, .unset, .unset, .unset] []))
      refine OGo.step (fun uK kK => XS.iload X187.here hx rfl (hb hby at_93) rfl kK) ?_
      refine OGo.step (fun uK kK => XS.iconst X187.here hx rfl (hb hby at_95) kK) ?_
      show OGo p e below _ (T187.setTop (mkF m 96 #[.val (.long q1), .second, .val (.long q2), .second, .val (.long uu), .second, .val (.int p3), .val (.long s0), .second, .val (.long s1), .second, .val (.int (7 : Int32)), .val (.ref b2), .unset, .unset, .unset, .unset, .unset] [(.int (3 : Int32)), (.int (7 : Int32))]))
      have hc96 : ¬ ((7 : Int32) = (3 : Int32)) := by decide
      refine OGo.step (fun uK kK => XS.icmpNo X187.here hx rfl (hb hby at_96) rfl (feq hc96).1 kK) ?_
      show OGo p e below _ (T187.setTop (mkF m 99 #[.val (.long q1), .second, .val (.long q2), .second, .val (.long uu), .second, .val (.int p3), .val (.long s0), .second, .val (.long s1), .second, .val (.int (7 : Int32)), .val (.ref b2), .unset, .unset, .unset, .unset, .unset] []))
      refine OGo.step (fun uK kK => XS.iload X187.here hx rfl (hb hby at_99) rfl kK) ?_
      refine OGo.step (fun uK kK => XS.iconst X187.here hx rfl (hb hby at_101) kK) ?_
      show OGo p e below _ (T187.setTop (mkF m 102 #[.val (.long q1), .second, .val (.long q2), .second, .val (.long uu), .second, .val (.int p3), .val (.long s0), .second, .val (.long s1), .second, .val (.int (7 : Int32)), .val (.ref b2), .unset, .unset, .unset, .unset, .unset] [(.int (4 : Int32)), (.int (7 : Int32))]))
      have hc102 : ¬ ((7 : Int32) = (4 : Int32)) := by decide
      refine OGo.step (fun uK kK => XS.icmpNo X187.here hx rfl (hb hby at_102) rfl (feq hc102).1 kK) ?_
      show OGo p e below _ (T187.setTop (mkF m 105 #[.val (.long q1), .second, .val (.long q2), .second, .val (.long uu), .second, .val (.int p3), .val (.long s0), .second, .val (.long s1), .second, .val (.int (7 : Int32)), .val (.ref b2), .unset, .unset, .unset, .unset, .unset] []))
      refine OGo.step (fun uK kK => XS.iload X187.here hx rfl (hb hby at_105) rfl kK) ?_
      refine OGo.step (fun uK kK => XS.bipush X187.here hx rfl (hb hby at_107) kK) ?_
      show OGo p e below _ (T187.setTop (mkF m 109 #[.val (.long q1), .second, .val (.long q2), .second, .val (.long uu), .second, .val (.int p3), .val (.long s0), .second, .val (.long s1), .second, .val (.int (7 : Int32)), .val (.ref b2), .unset, .unset, .unset, .unset, .unset] [(.int (6 : Int32)), (.int (7 : Int32))]))
      have hc109 : ¬ ((7 : Int32) = (6 : Int32)) := by decide
      refine OGo.step (fun uK kK => XS.icmpNo X187.here hx rfl (hb hby at_109) rfl (feq hc109).1 kK) ?_
      show OGo p e below _ (T187.setTop (mkF m 112 #[.val (.long q1), .second, .val (.long q2), .second, .val (.long uu), .second, .val (.int p3), .val (.long s0), .second, .val (.long s1), .second, .val (.int (7 : Int32)), .val (.ref b2), .unset, .unset, .unset, .unset, .unset] []))
      refine OGo.step (fun uK kK => XS.iload X187.here hx rfl (hb hby at_112) rfl kK) ?_
      refine OGo.step (fun uK kK => XS.bipush X187.here hx rfl (hb hby at_114) kK) ?_
      show OGo p e below _ (T187.setTop (mkF m 116 #[.val (.long q1), .second, .val (.long q2), .second, .val (.long uu), .second, .val (.int p3), .val (.long s0), .second, .val (.long s1), .second, .val (.int (7 : Int32)), .val (.ref b2), .unset, .unset, .unset, .unset, .unset] [(.int (7 : Int32)), (.int (7 : Int32))]))
      have hc116 : (7 : Int32) = (7 : Int32) := by decide
      refine OGo.step (fun uK kK => XS.icmpNo X187.here hx rfl (hb hby at_116) rfl (teq hc116).2 kK) ?_
      show OGo p e below _ (T187.setTop (mkF m 119 #[.val (.long q1), .second, .val (.long q2), .second, .val (.long uu), .second, .val (.int p3), .val (.long s0), .second, .val (.long s1), .second, .val (.int (7 : Int32)), .val (.ref b2), .unset, .unset, .unset, .unset, .unset] []))
      refine OGo.step (fun uK kK => XS.aload X187.here hx rfl (hb hby at_119) rfl rfl kK) ?_
      refine OGo.step (fun uK kK => XS.lload X187.here hx rfl (hb hby at_121) rfl kK) ?_
      show OGo p e below _ (T187.setTop (mkF m 123 #[.val (.long q1), .second, .val (.long q2), .second, .val (.long uu), .second, .val (.int p3), .val (.long s0), .second, .val (.long s1), .second, .val (.int (7 : Int32)), .val (.ref b2), .unset, .unset, .unset, .unset, .unset] [(.long s0), (.ref b2)]))
      obtain ⟨cq194, kq194, q194a, q194b, q194c⟩ := isOf hZ rfl A2_188
      obtain ⟨_, _, ⟨T194, Lq194, kq_194, nq_194⟩, -, X194, ⟨Lc194, hQ194, lq194, yq194, zq194⟩, st194⟩ := X187.virtualBack hx (y := (⟨"com/example/graph_of_conflicts/graphofconflicts/engine/OpenSnapshots", "remove", "(J)Z"⟩ : MethodName)) (z := (⟨"com/example/graph_of_conflicts/graphofconflicts/engine/OpenSnapshots", "remove", "(J)Z"⟩ : MethodName)) hown (mvT hZ (hw _ (List.mem_of_getElem? (i := 52) rfl))) (mvT hZ (hw _ (List.mem_of_getElem? (i := 53) rfl))) (notFace_of_selects (args := #[]) (mvT hZ (hw _ (List.mem_of_getElem? (i := 55) rfl)))) (mvT hZ (hw _ (List.mem_of_getElem? (i := 55) rfl))) (mvT hZ (hw _ (List.mem_of_getElem? (i := 54) rfl))) (by decide) (backOf (W := 0) (rmr3 l Z a0 hw [] b2 aS kS s0 s1 (0 : Int64) (0 : Int64) (0 : Int64) (0 : Int64) (0 : Int64) (0 : Int64) aH kH (1 : Int32) (1 : Int32) (0 : Int32) (0 : Int32) (0 : Int32) (0 : Int32) (0 : Int32) (0 : Int32) T187.heap n0 ZS187 Fs187 Fh187 Fn187 Vs187 Vh187 A2_188 gn_b2 gS gH ne_b2_aS ne_b2_aH neSH hlt) hZ (hw _ (List.mem_of_getElem? (i := 56) rfl)) (hw _ (List.mem_of_getElem? (i := 7) rfl)) (by decide) (by decide)) q194a q194c (g := (mkF m 123 #[.val (.long q1), .second, .val (.long q2), .second, .val (.long uu), .second, .val (.int p3), .val (.long s0), .second, .val (.long s1), .second, .val (.int (7 : Int32)), .val (.ref b2), .unset, .unset, .unset, .unset, .unset] [(.long s0), (.ref b2)])) rfl (by rw [hml]; rfl) (Steps.refl _) (argsL := [(.long s0)]) (rest := []) (lenOf pd0_4 rfl) rfl (by show 2 * 0 + _ ≤ _; exact Nat.le_of_eq rfl) (hb hby at_123) (fun _ _ => ⟨rfl, rfl, (by decide : 3 + 0 ≤ _), (by decide : 19 + 0 ≤ _)⟩)
      dsimp only [Pt.U, Pt.locs, Pt.cells, Pt.slots] at X194 lq194 yq194 zq194 st194 hQ194
      subst lq194 yq194 zq194
      obtain ⟨rfl, Nq194, K194, Fs194, Fh194, Fn194, Vs194, Vh194⟩ := hQ194
      have A2_195 := (A2_188.keep K194)
      have ZS194 : n0 ≤ T194.heap.size := Nat.le_trans ZS187 K194.1
      have KC194 : Keep h0 T194.heap [] := KC187.trans K194 (allS (Or.inr sz_b2) (allS (Or.inr sz_aS) (allS (Or.inr sz_aH) all0)))
      have N194 := Fr.app N187 Nq194
      refine OGo.steps st194 ?_
      show OGo p e below _ (T194.setTop (mkF m 126 #[.val (.long q1), .second, .val (.long q2), .second, .val (.long uu), .second, .val (.int p3), .val (.long s0), .second, .val (.long s1), .second, .val (.int (7 : Int32)), .val (.ref b2), .unset, .unset, .unset, .unset, .unset] [(.int (1 : Int32))]))
      refine OGo.step (fun uK kK => XS.pop X194.here hx rfl (hb hby at_126) rfl rfl kK) ?_
      refine OGo.step (fun uK kK => XS.iload X194.here hx rfl (hb hby at_127) rfl kK) ?_
      refine OGo.step (fun uK kK => XS.iconst X194.here hx rfl (hb hby at_129) kK) ?_
      show OGo p e below _ (T194.setTop (mkF m 130 #[.val (.long q1), .second, .val (.long q2), .second, .val (.long uu), .second, .val (.int p3), .val (.long s0), .second, .val (.long s1), .second, .val (.int (7 : Int32)), .val (.ref b2), .unset, .unset, .unset, .unset, .unset] [(.int (5 : Int32)), (.int (7 : Int32))]))
      have hc130 : ¬ ((7 : Int32) = (5 : Int32)) := by decide
      refine OGo.step (fun uK kK => XS.icmpNo X194.here hx rfl (hb hby at_130) rfl (feq hc130).1 kK) ?_
      show OGo p e below _ (T194.setTop (mkF m 133 #[.val (.long q1), .second, .val (.long q2), .second, .val (.long uu), .second, .val (.int p3), .val (.long s0), .second, .val (.long s1), .second, .val (.int (7 : Int32)), .val (.ref b2), .unset, .unset, .unset, .unset, .unset] []))
      refine OGo.step (fun uK kK => XS.iload X194.here hx rfl (hb hby at_133) rfl kK) ?_
      refine OGo.step (fun uK kK => XS.bipush X194.here hx rfl (hb hby at_135) kK) ?_
      show OGo p e below _ (T194.setTop (mkF m 137 #[.val (.long q1), .second, .val (.long q2), .second, .val (.long uu), .second, .val (.int p3), .val (.long s0), .second, .val (.long s1), .second, .val (.int (7 : Int32)), .val (.ref b2), .unset, .unset, .unset, .unset, .unset] [(.int (7 : Int32)), (.int (7 : Int32))]))
      have hc137 : (7 : Int32) = (7 : Int32) := by decide
      refine OGo.step (fun uK kK => XS.icmpNo X194.here hx rfl (hb hby at_137) rfl (teq hc137).2 kK) ?_
      show OGo p e below _ (T194.setTop (mkF m 140 #[.val (.long q1), .second, .val (.long q2), .second, .val (.long uu), .second, .val (.int p3), .val (.long s0), .second, .val (.long s1), .second, .val (.int (7 : Int32)), .val (.ref b2), .unset, .unset, .unset, .unset, .unset] []))
      refine OGo.step (fun uK kK => XS.aload X194.here hx rfl (hb hby at_140) rfl rfl kK) ?_
      refine OGo.step (fun uK kK => XS.lload X194.here hx rfl (hb hby at_142) rfl kK) ?_
      show OGo p e below _ (T194.setTop (mkF m 144 #[.val (.long q1), .second, .val (.long q2), .second, .val (.long uu), .second, .val (.int p3), .val (.long s0), .second, .val (.long s1), .second, .val (.int (7 : Int32)), .val (.ref b2), .unset, .unset, .unset, .unset, .unset] [(.long s1), (.ref b2)]))
      obtain ⟨cq201, kq201, q201a, q201b, q201c⟩ := isOf hZ rfl A2_195
      obtain ⟨_, _, ⟨T201, Lq201, kq_201, nq_201⟩, -, X201, ⟨Lc201, hQ201, lq201, yq201, zq201⟩, st201⟩ := X194.virtualBack hx (y := (⟨"com/example/graph_of_conflicts/graphofconflicts/engine/OpenSnapshots", "remove", "(J)Z"⟩ : MethodName)) (z := (⟨"com/example/graph_of_conflicts/graphofconflicts/engine/OpenSnapshots", "remove", "(J)Z"⟩ : MethodName)) hown (mvT hZ (hw _ (List.mem_of_getElem? (i := 52) rfl))) (mvT hZ (hw _ (List.mem_of_getElem? (i := 53) rfl))) (notFace_of_selects (args := #[]) (mvT hZ (hw _ (List.mem_of_getElem? (i := 55) rfl)))) (mvT hZ (hw _ (List.mem_of_getElem? (i := 55) rfl))) (mvT hZ (hw _ (List.mem_of_getElem? (i := 54) rfl))) (by decide) (backOf (W := 0) (rmr1 l Z a0 hw [] b2 aS kS s1 s1 (0 : Int64) (0 : Int64) (0 : Int64) (0 : Int64) (0 : Int64) (0 : Int64) aH kH (1 : Int32) (1 : Int32) (0 : Int32) (0 : Int32) (0 : Int32) (0 : Int32) (0 : Int32) (0 : Int32) T194.heap n0 ZS194 Fs194 Fh194 Fn194 Vs194 Vh194 A2_195 gn_b2 gS gH ne_b2_aS ne_b2_aH neSH) hZ (hw _ (List.mem_of_getElem? (i := 56) rfl)) (hw _ (List.mem_of_getElem? (i := 7) rfl)) (by decide) (by decide)) q201a q201c (g := (mkF m 144 #[.val (.long q1), .second, .val (.long q2), .second, .val (.long uu), .second, .val (.int p3), .val (.long s0), .second, .val (.long s1), .second, .val (.int (7 : Int32)), .val (.ref b2), .unset, .unset, .unset, .unset, .unset] [(.long s1), (.ref b2)])) rfl (by rw [hml]; rfl) (Steps.refl _) (argsL := [(.long s1)]) (rest := []) (lenOf pd0_4 rfl) rfl (by show 2 * 0 + _ ≤ _; exact Nat.le_of_eq rfl) (hb hby at_144) (fun _ _ => ⟨rfl, rfl, (by decide : 3 + 0 ≤ _), (by decide : 19 + 0 ≤ _)⟩)
      dsimp only [Pt.U, Pt.locs, Pt.cells, Pt.slots] at X201 lq201 yq201 zq201 st201 hQ201
      subst lq201 yq201 zq201
      obtain ⟨rfl, Nq201, K201, Fs201, Fh201, Fn201, Vs201, Vh201⟩ := hQ201
      have A2_202 := (A2_195.keep K201)
      have ZS201 : n0 ≤ T201.heap.size := Nat.le_trans ZS194 K201.1
      have KC201 : Keep h0 T201.heap [] := KC194.trans K201 (allS (Or.inr sz_b2) (allS (Or.inr sz_aS) (allS (Or.inr sz_aH) all0)))
      have N201 := Fr.app N194 Nq201
      refine OGo.steps st201 ?_
      show OGo p e below _ (T201.setTop (mkF m 147 #[.val (.long q1), .second, .val (.long q2), .second, .val (.long uu), .second, .val (.int p3), .val (.long s0), .second, .val (.long s1), .second, .val (.int (7 : Int32)), .val (.ref b2), .unset, .unset, .unset, .unset, .unset] [(.int (1 : Int32))]))
      refine OGo.step (fun uK kK => XS.pop X201.here hx rfl (hb hby at_147) rfl rfl kK) ?_
      refine OGo.step (fun uK kK => XS.iload X201.here hx rfl (hb hby at_148) rfl kK) ?_
      refine OGo.step (fun uK kK => XS.iconst X201.here hx rfl (hb hby at_150) kK) ?_
      show OGo p e below _ (T201.setTop (mkF m 151 #[.val (.long q1), .second, .val (.long q2), .second, .val (.long uu), .second, .val (.int p3), .val (.long s0), .second, .val (.long s1), .second, .val (.int (7 : Int32)), .val (.ref b2), .unset, .unset, .unset, .unset, .unset] [(.int (1 : Int32)), (.int (7 : Int32))]))
      have hc151 : ¬ ((7 : Int32) = (1 : Int32)) := by decide
      refine OGo.step (fun uK kK => XS.icmpNo X201.here hx rfl (hb hby at_151) rfl (feq hc151).1 kK) ?_
      show OGo p e below _ (T201.setTop (mkF m 154 #[.val (.long q1), .second, .val (.long q2), .second, .val (.long uu), .second, .val (.int p3), .val (.long s0), .second, .val (.long s1), .second, .val (.int (7 : Int32)), .val (.ref b2), .unset, .unset, .unset, .unset, .unset] []))
      refine OGo.step (fun uK kK => XS.iload X201.here hx rfl (hb hby at_154) rfl kK) ?_
      refine OGo.step (fun uK kK => XS.iconst X201.here hx rfl (hb hby at_156) kK) ?_
      show OGo p e below _ (T201.setTop (mkF m 157 #[.val (.long q1), .second, .val (.long q2), .second, .val (.long uu), .second, .val (.int p3), .val (.long s0), .second, .val (.long s1), .second, .val (.int (7 : Int32)), .val (.ref b2), .unset, .unset, .unset, .unset, .unset] [(.int (2 : Int32)), (.int (7 : Int32))]))
      have hc157 : ¬ ((7 : Int32) = (2 : Int32)) := by decide
      refine OGo.step (fun uK kK => XS.icmpNo X201.here hx rfl (hb hby at_157) rfl (feq hc157).1 kK) ?_
      show OGo p e below _ (T201.setTop (mkF m 160 #[.val (.long q1), .second, .val (.long q2), .second, .val (.long uu), .second, .val (.int p3), .val (.long s0), .second, .val (.long s1), .second, .val (.int (7 : Int32)), .val (.ref b2), .unset, .unset, .unset, .unset, .unset] []))
      refine OGo.step (fun uK kK => XS.iload X201.here hx rfl (hb hby at_160) rfl kK) ?_
      refine OGo.step (fun uK kK => XS.iconst X201.here hx rfl (hb hby at_162) kK) ?_
      show OGo p e below _ (T201.setTop (mkF m 163 #[.val (.long q1), .second, .val (.long q2), .second, .val (.long uu), .second, .val (.int p3), .val (.long s0), .second, .val (.long s1), .second, .val (.int (7 : Int32)), .val (.ref b2), .unset, .unset, .unset, .unset, .unset] [(.int (3 : Int32)), (.int (7 : Int32))]))
      have hc163 : ¬ ((7 : Int32) = (3 : Int32)) := by decide
      refine OGo.step (fun uK kK => XS.icmpNo X201.here hx rfl (hb hby at_163) rfl (feq hc163).1 kK) ?_
      show OGo p e below _ (T201.setTop (mkF m 166 #[.val (.long q1), .second, .val (.long q2), .second, .val (.long uu), .second, .val (.int p3), .val (.long s0), .second, .val (.long s1), .second, .val (.int (7 : Int32)), .val (.ref b2), .unset, .unset, .unset, .unset, .unset] []))
      refine OGo.step (fun uK kK => XS.iload X201.here hx rfl (hb hby at_166) rfl kK) ?_
      refine OGo.step (fun uK kK => XS.iconst X201.here hx rfl (hb hby at_168) kK) ?_
      show OGo p e below _ (T201.setTop (mkF m 169 #[.val (.long q1), .second, .val (.long q2), .second, .val (.long uu), .second, .val (.int p3), .val (.long s0), .second, .val (.long s1), .second, .val (.int (7 : Int32)), .val (.ref b2), .unset, .unset, .unset, .unset, .unset] [(.int (5 : Int32)), (.int (7 : Int32))]))
      have hc169 : ¬ ((7 : Int32) = (5 : Int32)) := by decide
      refine OGo.step (fun uK kK => XS.icmpNo X201.here hx rfl (hb hby at_169) rfl (feq hc169).1 kK) ?_
      show OGo p e below _ (T201.setTop (mkF m 172 #[.val (.long q1), .second, .val (.long q2), .second, .val (.long uu), .second, .val (.int p3), .val (.long s0), .second, .val (.long s1), .second, .val (.int (7 : Int32)), .val (.ref b2), .unset, .unset, .unset, .unset, .unset] []))
      refine OGo.step (fun uK kK => XS.iload X201.here hx rfl (hb hby at_172) rfl kK) ?_
      refine OGo.step (fun uK kK => XS.bipush X201.here hx rfl (hb hby at_174) kK) ?_
      show OGo p e below _ (T201.setTop (mkF m 176 #[.val (.long q1), .second, .val (.long q2), .second, .val (.long uu), .second, .val (.int p3), .val (.long s0), .second, .val (.long s1), .second, .val (.int (7 : Int32)), .val (.ref b2), .unset, .unset, .unset, .unset, .unset] [(.int (6 : Int32)), (.int (7 : Int32))]))
      have hc176 : ¬ ((7 : Int32) = (6 : Int32)) := by decide
      refine OGo.step (fun uK kK => XS.icmpYes X201.here hx rfl (pc0 := 176) (pc' := 183) rfl (hb hby at_176) rfl (feq hc176).2 (by decide) (by decide) kK) ?_
      show OGo p e below _ (T201.setTop (mkF m 183 #[.val (.long q1), .second, .val (.long q2), .second, .val (.long uu), .second, .val (.int p3), .val (.long s0), .second, .val (.long s1), .second, .val (.int (7 : Int32)), .val (.ref b2), .unset, .unset, .unset, .unset, .unset] []))
      refine OGo.step (fun uK kK => XS.iconst X201.here hx rfl (hb hby at_183) kK) ?_
      show OGo p e below _ (T201.setTop (mkF m 184 #[.val (.long q1), .second, .val (.long q2), .second, .val (.long uu), .second, .val (.int p3), .val (.long s0), .second, .val (.long s1), .second, .val (.int (7 : Int32)), .val (.ref b2), .unset, .unset, .unset, .unset, .unset] [(.int (0 : Int32))]))
      refine OGo.step (fun uK kK => XS.istore X201.here hx rfl (hb hby at_184) rfl (l' := #[.val (.long q1), .second, .val (.long q2), .second, .val (.long uu), .second, .val (.int p3), .val (.long s0), .second, .val (.long s1), .second, .val (.int (7 : Int32)), .val (.ref b2), .val (.int (0 : Int32)), .unset, .unset, .unset, .unset]) rfl kK) ?_
      refine OGo.step (fun uK kK => XS.iload X201.here hx rfl (hb hby at_186) rfl kK) ?_
      refine OGo.step (fun uK kK => XS.iconst X201.here hx rfl (hb hby at_188) kK) ?_
      show OGo p e below _ (T201.setTop (mkF m 189 #[.val (.long q1), .second, .val (.long q2), .second, .val (.long uu), .second, .val (.int p3), .val (.long s0), .second, .val (.long s1), .second, .val (.int (7 : Int32)), .val (.ref b2), .val (.int (0 : Int32)), .unset, .unset, .unset, .unset] [(.int (3 : Int32)), (.int (7 : Int32))]))
      have hc189 : ¬ ((7 : Int32) = (3 : Int32)) := by decide
      refine OGo.step (fun uK kK => XS.icmpYes X201.here hx rfl (pc0 := 189) (pc' := 197) rfl (hb hby at_189) rfl (feq hc189).2 (by decide) (by decide) kK) ?_
      show OGo p e below _ (T201.setTop (mkF m 197 #[.val (.long q1), .second, .val (.long q2), .second, .val (.long uu), .second, .val (.int p3), .val (.long s0), .second, .val (.long s1), .second, .val (.int (7 : Int32)), .val (.ref b2), .val (.int (0 : Int32)), .unset, .unset, .unset, .unset] []))
      refine OGo.step (fun uK kK => XS.lload X201.here hx rfl (hb hby at_197) rfl kK) ?_
      show OGo p e below _ (T201.setTop (mkF m 199 #[.val (.long q1), .second, .val (.long q2), .second, .val (.long uu), .second, .val (.int p3), .val (.long s0), .second, .val (.long s1), .second, .val (.int (7 : Int32)), .val (.ref b2), .val (.int (0 : Int32)), .unset, .unset, .unset, .unset] [(.long s0)]))
      refine OGo.step (fun uK kK => XS.lstore X201.here hx rfl (hb hby at_199) rfl (l' := #[.val (.long q1), .second, .val (.long q2), .second, .val (.long uu), .second, .val (.int p3), .val (.long s0), .second, .val (.long s1), .second, .val (.int (7 : Int32)), .val (.ref b2), .val (.int (0 : Int32)), .val (.long s0), .second, .unset, .unset]) rfl kK) ?_
      refine OGo.step (fun uK kK => XS.iload X201.here hx rfl (hb hby at_201) rfl kK) ?_
      show OGo p e below _ (T201.setTop (mkF m 203 #[.val (.long q1), .second, .val (.long q2), .second, .val (.long uu), .second, .val (.int p3), .val (.long s0), .second, .val (.long s1), .second, .val (.int (7 : Int32)), .val (.ref b2), .val (.int (0 : Int32)), .val (.long s0), .second, .unset, .unset] [(.int (0 : Int32))]))
      have hc203 : (0 : Int32) = (0 : Int32) := by decide
      refine OGo.step (fun uK kK => XS.ifNo X201.here hx rfl (hb hby at_203) rfl ((if0 _ _).trans (teq hc203).2) kK) ?_
      show OGo p e below _ (T201.setTop (mkF m 206 #[.val (.long q1), .second, .val (.long q2), .second, .val (.long uu), .second, .val (.int p3), .val (.long s0), .second, .val (.long s1), .second, .val (.int (7 : Int32)), .val (.ref b2), .val (.int (0 : Int32)), .val (.long s0), .second, .unset, .unset] []))
      refine OGo.step (fun uK kK => X201.ldc2J hx hown (mvT hZ (hw _ (List.mem_of_getElem? (i := 45) rfl))) rfl (hb hby at_206) kK) ?_
      show OGo p e below _ (T201.setTop (mkF m 209 #[.val (.long q1), .second, .val (.long q2), .second, .val (.long uu), .second, .val (.int p3), .val (.long s0), .second, .val (.long s1), .second, .val (.int (7 : Int32)), .val (.ref b2), .val (.int (0 : Int32)), .val (.long s0), .second, .unset, .unset] [(.long (-1 : Int64))]))
      refine OGo.step (fun uK kK => XS.lstore X201.here hx rfl (hb hby at_209) rfl (l' := #[.val (.long q1), .second, .val (.long q2), .second, .val (.long uu), .second, .val (.int p3), .val (.long s0), .second, .val (.long s1), .second, .val (.int (7 : Int32)), .val (.ref b2), .val (.int (0 : Int32)), .val (.long s0), .second, .val (.long (-1 : Int64)), .second]) rfl kK) ?_
      show OGo p e below _ (T201.setTop (mkF m 211 #[.val (.long q1), .second, .val (.long q2), .second, .val (.long uu), .second, .val (.int p3), .val (.long s0), .second, .val (.long s1), .second, .val (.int (7 : Int32)), .val (.ref b2), .val (.int (0 : Int32)), .val (.long s0), .second, .val (.long (-1 : Int64)), .second] []))
      refine OGo.step (fun uK kK => XS.goto X201.here hx rfl (pc0 := 211) (pc' := 234) rfl (hb hby at_211) (by decide) (by decide) kK) ?_
      refine OGo.step (fun uK kK => XS.aload X201.here hx rfl (hb hby at_234) rfl rfl kK) ?_
      refine OGo.step (fun uK kK => XS.lload X201.here hx rfl (hb hby at_236) rfl kK) ?_
      show OGo p e below _ (T201.setTop (mkF m 238 #[.val (.long q1), .second, .val (.long q2), .second, .val (.long uu), .second, .val (.int p3), .val (.long s0), .second, .val (.long s1), .second, .val (.int (7 : Int32)), .val (.ref b2), .val (.int (0 : Int32)), .val (.long s0), .second, .val (.long (-1 : Int64)), .second] [(.long uu), (.ref b2)]))
      obtain ⟨cq208, kq208, q208a, q208b, q208c⟩ := isOf hZ rfl A2_202
      obtain ⟨_, _, ⟨T208, Lq208, kq_208, nq_208⟩, -, X208, ⟨Lc208, hQ208, lq208, yq208, zq208⟩, st208⟩ := X201.virtualBack hx (y := (⟨"com/example/graph_of_conflicts/graphofconflicts/engine/OpenSnapshots", "earliestBefore", "(J)J"⟩ : MethodName)) (z := (⟨"com/example/graph_of_conflicts/graphofconflicts/engine/OpenSnapshots", "earliestBefore", "(J)J"⟩ : MethodName)) hown (mvT hZ (hw _ (List.mem_of_getElem? (i := 46) rfl))) (mvT hZ (hw _ (List.mem_of_getElem? (i := 47) rfl))) (notFace_of_selects (args := #[]) (mvT hZ (hw _ (List.mem_of_getElem? (i := 49) rfl)))) (mvT hZ (hw _ (List.mem_of_getElem? (i := 49) rfl))) (mvT hZ (hw _ (List.mem_of_getElem? (i := 48) rfl))) (by decide) (backOf (W := 0) (rme0 l Z a0 hw [] b2 uu  T201.heap n0 ZS201 Fn201) hZ (hw _ (List.mem_of_getElem? (i := 50) rfl)) (hw _ (List.mem_of_getElem? (i := 7) rfl)) (by decide) (by decide)) q208a q208c (g := (mkF m 238 #[.val (.long q1), .second, .val (.long q2), .second, .val (.long uu), .second, .val (.int p3), .val (.long s0), .second, .val (.long s1), .second, .val (.int (7 : Int32)), .val (.ref b2), .val (.int (0 : Int32)), .val (.long s0), .second, .val (.long (-1 : Int64)), .second] [(.long uu), (.ref b2)])) rfl (by rw [hml]; rfl) (Steps.refl _) (argsL := [(.long uu)]) (rest := []) (lenOf pd0_2 rfl) rfl (by show 2 * 0 + _ ≤ _; exact Nat.le_of_eq rfl) (hb hby at_238) (fun _ _ => ⟨rfl, rfl, (by decide : 3 + 0 ≤ _), (by decide : 19 + 0 ≤ _)⟩)
      dsimp only [Pt.U, Pt.locs, Pt.cells, Pt.slots] at X208 lq208 yq208 zq208 st208 hQ208
      subst lq208 yq208 zq208
      obtain ⟨rfl, Nq208, e208⟩ := hQ208
      have N208 := Fr.app N201 Nq208
      refine OGo.steps st208 ?_
      show OGo p e below _ (T208.setTop (mkF m 241 #[.val (.long q1), .second, .val (.long q2), .second, .val (.long uu), .second, .val (.int p3), .val (.long s0), .second, .val (.long s1), .second, .val (.int (7 : Int32)), .val (.ref b2), .val (.int (0 : Int32)), .val (.long s0), .second, .val (.long (-1 : Int64)), .second] [(.long (-1 : Int64))]))
      refine OGo.step (fun uK kK => XS.lload X208.here hx rfl (hb hby at_241) rfl kK) ?_
      show OGo p e below _ (T208.setTop (mkF m 243 #[.val (.long q1), .second, .val (.long q2), .second, .val (.long uu), .second, .val (.int p3), .val (.long s0), .second, .val (.long s1), .second, .val (.int (7 : Int32)), .val (.ref b2), .val (.int (0 : Int32)), .val (.long s0), .second, .val (.long (-1 : Int64)), .second] [(.long (-1 : Int64)), (.long (-1 : Int64))]))
      refine OGo.step (fun uK kK => XS.lcmp X208.here hx rfl (hb hby at_243) rfl kK) ?_
      show OGo p e below _ (T208.setTop (mkF m 244 #[.val (.long q1), .second, .val (.long q2), .second, .val (.long uu), .second, .val (.int p3), .val (.long s0), .second, .val (.long s1), .second, .val (.int (7 : Int32)), .val (.ref b2), .val (.int (0 : Int32)), .val (.long s0), .second, .val (.long (-1 : Int64)), .second] [(.int (lcmpW (-1 : Int64) (-1 : Int64)))]))
      have hc244 : (-1 : Int64) = (-1 : Int64) := rfl
      refine OGo.step (fun uK kK => XS.ifNo X208.here hx rfl (hb hby at_244) rfl ((if0 _ _).trans (teq ((lw_eq _ _).mpr hc244)).2) kK) ?_
      show OGo p e below _ (T208.setTop (mkF m 247 #[.val (.long q1), .second, .val (.long q2), .second, .val (.long uu), .second, .val (.int p3), .val (.long s0), .second, .val (.long s1), .second, .val (.int (7 : Int32)), .val (.ref b2), .val (.int (0 : Int32)), .val (.long s0), .second, .val (.long (-1 : Int64)), .second] []))
      refine OGo.step (fun uK kK => XS.iconst X208.here hx rfl (hb hby at_247) kK) ?_
      show OGo p e below _ (T208.setTop (mkF m 248 #[.val (.long q1), .second, .val (.long q2), .second, .val (.long uu), .second, .val (.int p3), .val (.long s0), .second, .val (.long s1), .second, .val (.int (7 : Int32)), .val (.ref b2), .val (.int (0 : Int32)), .val (.long s0), .second, .val (.long (-1 : Int64)), .second] [(.int (1 : Int32))]))
      refine OGo.step (fun uK kK => XS.goto X208.here hx rfl (pc0 := 248) (pc' := 252) rfl (hb hby at_248) (by decide) (by decide) kK) ?_
      show OGo p e below _ (T208.setTop (mkF m 252 #[.val (.long q1), .second, .val (.long q2), .second, .val (.long uu), .second, .val (.int p3), .val (.long s0), .second, .val (.long s1), .second, .val (.int (7 : Int32)), .val (.ref b2), .val (.int (0 : Int32)), .val (.long s0), .second, .val (.long (-1 : Int64)), .second] [(.int (1 : Int32))]))
      exact OGo.retN X208 hx Bd.notSynchronized (t := .boolean) Bd.returns (by simp) (hb hby at_252) (by decide) (by decide) (by show Q0 Z q1 q2 uu p3 h0 n0 _ T208.heap _; rw [e208]; exact ⟨rfl, N208⟩)
    · skip
      replace heq := heq.symm
      subst heq
      show OGo p e below _ (T3.setTop (mkF m 35 #[.val (.long q1), .second, .val (.long q2), .second, .val (.long uu), .second, .val (.int p3), .val (.long s0), .second, .val (.long s0), .second, .val (.int (7 : Int32)), .val (.ref b2), .unset, .unset, .unset, .unset, .unset] []))
      refine OGo.step (fun uK kK => XS.iload X3.here hx rfl (hb hby at_35) rfl kK) ?_
      show OGo p e below _ (T3.setTop (mkF m 37 #[.val (.long q1), .second, .val (.long q2), .second, .val (.long uu), .second, .val (.int p3), .val (.long s0), .second, .val (.long s0), .second, .val (.int (7 : Int32)), .val (.ref b2), .unset, .unset, .unset, .unset, .unset] [(.int (7 : Int32))]))
      have hc37 : ¬ ((7 : Int32) = (0 : Int32)) := by decide
      refine OGo.step (fun uK kK => XS.ifNo X3.here hx rfl (hb hby at_37) rfl ((if0 _ _).trans (feq hc37).1) kK) ?_
      show OGo p e below _ (T3.setTop (mkF m 40 #[.val (.long q1), .second, .val (.long q2), .second, .val (.long uu), .second, .val (.int p3), .val (.long s0), .second, .val (.long s0), .second, .val (.int (7 : Int32)), .val (.ref b2), .unset, .unset, .unset, .unset, .unset] []))
      refine OGo.step (fun uK kK => XS.aload X3.here hx rfl (hb hby at_40) rfl rfl kK) ?_
      refine OGo.step (fun uK kK => XS.lload X3.here hx rfl (hb hby at_42) rfl kK) ?_
      show OGo p e below _ (T3.setTop (mkF m 44 #[.val (.long q1), .second, .val (.long q2), .second, .val (.long uu), .second, .val (.int p3), .val (.long s0), .second, .val (.long s0), .second, .val (.int (7 : Int32)), .val (.ref b2), .unset, .unset, .unset, .unset, .unset] [(.long s0), (.ref b2)]))
      obtain ⟨cq209, kq209, q209a, q209b, q209c⟩ := isOf hZ rfl A2_4
      obtain ⟨_, _, ⟨T209, Lq209, kq_209, nq_209⟩, -, X209, ⟨Lc209, hQ209, lq209, yq209, zq209⟩, st209⟩ := X3.virtualBack hx (y := (⟨"com/example/graph_of_conflicts/graphofconflicts/engine/OpenSnapshots", "add", "(J)V"⟩ : MethodName)) (z := (⟨"com/example/graph_of_conflicts/graphofconflicts/engine/OpenSnapshots", "add", "(J)V"⟩ : MethodName)) hown (mvT hZ (hw _ (List.mem_of_getElem? (i := 20) rfl))) (mvT hZ (hw _ (List.mem_of_getElem? (i := 21) rfl))) (notFace_of_selects (args := #[]) (mvT hZ (hw _ (List.mem_of_getElem? (i := 23) rfl)))) (mvT hZ (hw _ (List.mem_of_getElem? (i := 23) rfl))) (mvT hZ (hw _ (List.mem_of_getElem? (i := 22) rfl))) (by decide) (backOf (W := 0) (rma0 l Z a0 hw [] b2 aS kS (0 : Int64) (0 : Int64) (0 : Int64) (0 : Int64) (0 : Int64) (0 : Int64) (0 : Int64) (0 : Int64) aH kH (0 : Int32) (0 : Int32) (0 : Int32) (0 : Int32) (0 : Int32) (0 : Int32) (0 : Int32) (0 : Int32) s0 T3.heap n0 ZS3 Fs3 Fh3 Fn3 Vs3 Vh3 A2_4 gn_b2 gS gH ne_b2_aS ne_b2_aH neSH) hZ (hw _ (List.mem_of_getElem? (i := 24) rfl)) (hw _ (List.mem_of_getElem? (i := 7) rfl)) (by decide) (by decide)) q209a q209c (g := (mkF m 44 #[.val (.long q1), .second, .val (.long q2), .second, .val (.long uu), .second, .val (.int p3), .val (.long s0), .second, .val (.long s0), .second, .val (.int (7 : Int32)), .val (.ref b2), .unset, .unset, .unset, .unset, .unset] [(.long s0), (.ref b2)])) rfl (by rw [hml]; rfl) (Steps.refl _) (argsL := [(.long s0)]) (rest := []) (lenOf pd0_3 rfl) rfl (by show 2 * 0 + _ ≤ _; exact Nat.le_of_eq rfl) (hb hby at_44) (fun _ _ => ⟨rfl, rfl, (by decide : 3 + 0 ≤ _), (by decide : 19 + 0 ≤ _)⟩)
      dsimp only [Pt.U, Pt.locs, Pt.cells, Pt.slots] at X209 lq209 yq209 zq209 st209 hQ209
      subst lq209 yq209 zq209
      obtain ⟨rfl, Nq209, K209, Fs209, Fh209, Fn209, Vs209, Vh209⟩ := hQ209
      have A2_210 := (A2_4.keep K209)
      have ZS209 : n0 ≤ T209.heap.size := Nat.le_trans ZS3 K209.1
      have KC209 : Keep h0 T209.heap [] := KC3.trans K209 (allS (Or.inr sz_b2) (allS (Or.inr sz_aS) (allS (Or.inr sz_aH) all0)))
      have N209 := Fr.app N3 Nq209
      refine OGo.steps st209 ?_
      show OGo p e below _ (T209.setTop (mkF m 47 #[.val (.long q1), .second, .val (.long q2), .second, .val (.long uu), .second, .val (.int p3), .val (.long s0), .second, .val (.long s0), .second, .val (.int (7 : Int32)), .val (.ref b2), .unset, .unset, .unset, .unset, .unset] []))
      refine OGo.step (fun uK kK => XS.iload X209.here hx rfl (hb hby at_47) rfl kK) ?_
      refine OGo.step (fun uK kK => XS.iconst X209.here hx rfl (hb hby at_49) kK) ?_
      show OGo p e below _ (T209.setTop (mkF m 50 #[.val (.long q1), .second, .val (.long q2), .second, .val (.long uu), .second, .val (.int p3), .val (.long s0), .second, .val (.long s0), .second, .val (.int (7 : Int32)), .val (.ref b2), .unset, .unset, .unset, .unset, .unset] [(.int (2 : Int32)), (.int (7 : Int32))]))
      have hc50 : ¬ ((7 : Int32) = (2 : Int32)) := by decide
      refine OGo.step (fun uK kK => XS.icmpNo X209.here hx rfl (hb hby at_50) rfl (feq hc50).1 kK) ?_
      show OGo p e below _ (T209.setTop (mkF m 53 #[.val (.long q1), .second, .val (.long q2), .second, .val (.long uu), .second, .val (.int p3), .val (.long s0), .second, .val (.long s0), .second, .val (.int (7 : Int32)), .val (.ref b2), .unset, .unset, .unset, .unset, .unset] []))
      refine OGo.step (fun uK kK => XS.iload X209.here hx rfl (hb hby at_53) rfl kK) ?_
      refine OGo.step (fun uK kK => XS.iconst X209.here hx rfl (hb hby at_55) kK) ?_
      show OGo p e below _ (T209.setTop (mkF m 56 #[.val (.long q1), .second, .val (.long q2), .second, .val (.long uu), .second, .val (.int p3), .val (.long s0), .second, .val (.long s0), .second, .val (.int (7 : Int32)), .val (.ref b2), .unset, .unset, .unset, .unset, .unset] [(.int (3 : Int32)), (.int (7 : Int32))]))
      have hc56 : ¬ ((7 : Int32) = (3 : Int32)) := by decide
      refine OGo.step (fun uK kK => XS.icmpNo X209.here hx rfl (hb hby at_56) rfl (feq hc56).1 kK) ?_
      show OGo p e below _ (T209.setTop (mkF m 59 #[.val (.long q1), .second, .val (.long q2), .second, .val (.long uu), .second, .val (.int p3), .val (.long s0), .second, .val (.long s0), .second, .val (.int (7 : Int32)), .val (.ref b2), .unset, .unset, .unset, .unset, .unset] []))
      refine OGo.step (fun uK kK => XS.iload X209.here hx rfl (hb hby at_59) rfl kK) ?_
      refine OGo.step (fun uK kK => XS.iconst X209.here hx rfl (hb hby at_61) kK) ?_
      show OGo p e below _ (T209.setTop (mkF m 62 #[.val (.long q1), .second, .val (.long q2), .second, .val (.long uu), .second, .val (.int p3), .val (.long s0), .second, .val (.long s0), .second, .val (.int (7 : Int32)), .val (.ref b2), .unset, .unset, .unset, .unset, .unset] [(.int (5 : Int32)), (.int (7 : Int32))]))
      have hc62 : ¬ ((7 : Int32) = (5 : Int32)) := by decide
      refine OGo.step (fun uK kK => XS.icmpNo X209.here hx rfl (hb hby at_62) rfl (feq hc62).1 kK) ?_
      show OGo p e below _ (T209.setTop (mkF m 65 #[.val (.long q1), .second, .val (.long q2), .second, .val (.long uu), .second, .val (.int p3), .val (.long s0), .second, .val (.long s0), .second, .val (.int (7 : Int32)), .val (.ref b2), .unset, .unset, .unset, .unset, .unset] []))
      refine OGo.step (fun uK kK => XS.iload X209.here hx rfl (hb hby at_65) rfl kK) ?_
      refine OGo.step (fun uK kK => XS.bipush X209.here hx rfl (hb hby at_67) kK) ?_
      show OGo p e below _ (T209.setTop (mkF m 69 #[.val (.long q1), .second, .val (.long q2), .second, .val (.long uu), .second, .val (.int p3), .val (.long s0), .second, .val (.long s0), .second, .val (.int (7 : Int32)), .val (.ref b2), .unset, .unset, .unset, .unset, .unset] [(.int (7 : Int32)), (.int (7 : Int32))]))
      have hc69 : (7 : Int32) = (7 : Int32) := by decide
      refine OGo.step (fun uK kK => XS.icmpNo X209.here hx rfl (hb hby at_69) rfl (teq hc69).2 kK) ?_
      show OGo p e below _ (T209.setTop (mkF m 72 #[.val (.long q1), .second, .val (.long q2), .second, .val (.long uu), .second, .val (.int p3), .val (.long s0), .second, .val (.long s0), .second, .val (.int (7 : Int32)), .val (.ref b2), .unset, .unset, .unset, .unset, .unset] []))
      refine OGo.step (fun uK kK => XS.aload X209.here hx rfl (hb hby at_72) rfl rfl kK) ?_
      refine OGo.step (fun uK kK => XS.lload X209.here hx rfl (hb hby at_74) rfl kK) ?_
      show OGo p e below _ (T209.setTop (mkF m 76 #[.val (.long q1), .second, .val (.long q2), .second, .val (.long uu), .second, .val (.int p3), .val (.long s0), .second, .val (.long s0), .second, .val (.int (7 : Int32)), .val (.ref b2), .unset, .unset, .unset, .unset, .unset] [(.long s0), (.ref b2)]))
      obtain ⟨cq216, kq216, q216a, q216b, q216c⟩ := isOf hZ rfl A2_210
      obtain ⟨_, _, ⟨T216, Lq216, kq_216, nq_216⟩, -, X216, ⟨Lc216, hQ216, lq216, yq216, zq216⟩, st216⟩ := X209.virtualBack hx (y := (⟨"com/example/graph_of_conflicts/graphofconflicts/engine/OpenSnapshots", "add", "(J)V"⟩ : MethodName)) (z := (⟨"com/example/graph_of_conflicts/graphofconflicts/engine/OpenSnapshots", "add", "(J)V"⟩ : MethodName)) hown (mvT hZ (hw _ (List.mem_of_getElem? (i := 20) rfl))) (mvT hZ (hw _ (List.mem_of_getElem? (i := 21) rfl))) (notFace_of_selects (args := #[]) (mvT hZ (hw _ (List.mem_of_getElem? (i := 23) rfl)))) (mvT hZ (hw _ (List.mem_of_getElem? (i := 23) rfl))) (mvT hZ (hw _ (List.mem_of_getElem? (i := 22) rfl))) (by decide) (backOf (W := 0) (rmae l Z a0 hw [] b2 aS kS s0 (0 : Int64) (0 : Int64) (0 : Int64) (0 : Int64) (0 : Int64) (0 : Int64) (0 : Int64) aH kH (1 : Int32) (0 : Int32) (0 : Int32) (0 : Int32) (0 : Int32) (0 : Int32) (0 : Int32) (0 : Int32) T209.heap n0 ZS209 Fs209 Fh209 Fn209 Vs209 Vh209 A2_210 gn_b2 gS gH ne_b2_aS ne_b2_aH neSH) hZ (hw _ (List.mem_of_getElem? (i := 24) rfl)) (hw _ (List.mem_of_getElem? (i := 7) rfl)) (by decide) (by decide)) q216a q216c (g := (mkF m 76 #[.val (.long q1), .second, .val (.long q2), .second, .val (.long uu), .second, .val (.int p3), .val (.long s0), .second, .val (.long s0), .second, .val (.int (7 : Int32)), .val (.ref b2), .unset, .unset, .unset, .unset, .unset] [(.long s0), (.ref b2)])) rfl (by rw [hml]; rfl) (Steps.refl _) (argsL := [(.long s0)]) (rest := []) (lenOf pd0_3 rfl) rfl (by show 2 * 0 + _ ≤ _; exact Nat.le_of_eq rfl) (hb hby at_76) (fun _ _ => ⟨rfl, rfl, (by decide : 3 + 0 ≤ _), (by decide : 19 + 0 ≤ _)⟩)
      dsimp only [Pt.U, Pt.locs, Pt.cells, Pt.slots] at X216 lq216 yq216 zq216 st216 hQ216
      subst lq216 yq216 zq216
      obtain ⟨rfl, Nq216, K216, Fs216, Fh216, Fn216, Vs216, Vh216⟩ := hQ216
      have A2_217 := (A2_210.keep K216)
      have ZS216 : n0 ≤ T216.heap.size := Nat.le_trans ZS209 K216.1
      have KC216 : Keep h0 T216.heap [] := KC209.trans K216 (allS (Or.inr sz_b2) (allS (Or.inr sz_aS) (allS (Or.inr sz_aH) all0)))
      have N216 := Fr.app N209 Nq216
      refine OGo.steps st216 ?_
      show OGo p e below _ (T216.setTop (mkF m 79 #[.val (.long q1), .second, .val (.long q2), .second, .val (.long uu), .second, .val (.int p3), .val (.long s0), .second, .val (.long s0), .second, .val (.int (7 : Int32)), .val (.ref b2), .unset, .unset, .unset, .unset, .unset] []))
      refine OGo.step (fun uK kK => XS.iload X216.here hx rfl (hb hby at_79) rfl kK) ?_
      refine OGo.step (fun uK kK => XS.bipush X216.here hx rfl (hb hby at_81) kK) ?_
      show OGo p e below _ (T216.setTop (mkF m 83 #[.val (.long q1), .second, .val (.long q2), .second, .val (.long uu), .second, .val (.int p3), .val (.long s0), .second, .val (.long s0), .second, .val (.int (7 : Int32)), .val (.ref b2), .unset, .unset, .unset, .unset, .unset] [(.int (6 : Int32)), (.int (7 : Int32))]))
      have hc83 : ¬ ((7 : Int32) = (6 : Int32)) := by decide
      refine OGo.step (fun uK kK => XS.icmpYes X216.here hx rfl (pc0 := 83) (pc' := 93) rfl (hb hby at_83) rfl (feq hc83).2 (by decide) (by decide) kK) ?_
      show OGo p e below _ (T216.setTop (mkF m 93 #[.val (.long q1), .second, .val (.long q2), .second, .val (.long uu), .second, .val (.int p3), .val (.long s0), .second, .val (.long s0), .second, .val (.int (7 : Int32)), .val (.ref b2), .unset, .unset, .unset, .unset, .unset] []))
      refine OGo.step (fun uK kK => XS.iload X216.here hx rfl (hb hby at_93) rfl kK) ?_
      refine OGo.step (fun uK kK => XS.iconst X216.here hx rfl (hb hby at_95) kK) ?_
      show OGo p e below _ (T216.setTop (mkF m 96 #[.val (.long q1), .second, .val (.long q2), .second, .val (.long uu), .second, .val (.int p3), .val (.long s0), .second, .val (.long s0), .second, .val (.int (7 : Int32)), .val (.ref b2), .unset, .unset, .unset, .unset, .unset] [(.int (3 : Int32)), (.int (7 : Int32))]))
      have hc96 : ¬ ((7 : Int32) = (3 : Int32)) := by decide
      refine OGo.step (fun uK kK => XS.icmpNo X216.here hx rfl (hb hby at_96) rfl (feq hc96).1 kK) ?_
      show OGo p e below _ (T216.setTop (mkF m 99 #[.val (.long q1), .second, .val (.long q2), .second, .val (.long uu), .second, .val (.int p3), .val (.long s0), .second, .val (.long s0), .second, .val (.int (7 : Int32)), .val (.ref b2), .unset, .unset, .unset, .unset, .unset] []))
      refine OGo.step (fun uK kK => XS.iload X216.here hx rfl (hb hby at_99) rfl kK) ?_
      refine OGo.step (fun uK kK => XS.iconst X216.here hx rfl (hb hby at_101) kK) ?_
      show OGo p e below _ (T216.setTop (mkF m 102 #[.val (.long q1), .second, .val (.long q2), .second, .val (.long uu), .second, .val (.int p3), .val (.long s0), .second, .val (.long s0), .second, .val (.int (7 : Int32)), .val (.ref b2), .unset, .unset, .unset, .unset, .unset] [(.int (4 : Int32)), (.int (7 : Int32))]))
      have hc102 : ¬ ((7 : Int32) = (4 : Int32)) := by decide
      refine OGo.step (fun uK kK => XS.icmpNo X216.here hx rfl (hb hby at_102) rfl (feq hc102).1 kK) ?_
      show OGo p e below _ (T216.setTop (mkF m 105 #[.val (.long q1), .second, .val (.long q2), .second, .val (.long uu), .second, .val (.int p3), .val (.long s0), .second, .val (.long s0), .second, .val (.int (7 : Int32)), .val (.ref b2), .unset, .unset, .unset, .unset, .unset] []))
      refine OGo.step (fun uK kK => XS.iload X216.here hx rfl (hb hby at_105) rfl kK) ?_
      refine OGo.step (fun uK kK => XS.bipush X216.here hx rfl (hb hby at_107) kK) ?_
      show OGo p e below _ (T216.setTop (mkF m 109 #[.val (.long q1), .second, .val (.long q2), .second, .val (.long uu), .second, .val (.int p3), .val (.long s0), .second, .val (.long s0), .second, .val (.int (7 : Int32)), .val (.ref b2), .unset, .unset, .unset, .unset, .unset] [(.int (6 : Int32)), (.int (7 : Int32))]))
      have hc109 : ¬ ((7 : Int32) = (6 : Int32)) := by decide
      refine OGo.step (fun uK kK => XS.icmpNo X216.here hx rfl (hb hby at_109) rfl (feq hc109).1 kK) ?_
      show OGo p e below _ (T216.setTop (mkF m 112 #[.val (.long q1), .second, .val (.long q2), .second, .val (.long uu), .second, .val (.int p3), .val (.long s0), .second, .val (.long s0), .second, .val (.int (7 : Int32)), .val (.ref b2), .unset, .unset, .unset, .unset, .unset] []))
      refine OGo.step (fun uK kK => XS.iload X216.here hx rfl (hb hby at_112) rfl kK) ?_
      refine OGo.step (fun uK kK => XS.bipush X216.here hx rfl (hb hby at_114) kK) ?_
      show OGo p e below _ (T216.setTop (mkF m 116 #[.val (.long q1), .second, .val (.long q2), .second, .val (.long uu), .second, .val (.int p3), .val (.long s0), .second, .val (.long s0), .second, .val (.int (7 : Int32)), .val (.ref b2), .unset, .unset, .unset, .unset, .unset] [(.int (7 : Int32)), (.int (7 : Int32))]))
      have hc116 : (7 : Int32) = (7 : Int32) := by decide
      refine OGo.step (fun uK kK => XS.icmpNo X216.here hx rfl (hb hby at_116) rfl (teq hc116).2 kK) ?_
      show OGo p e below _ (T216.setTop (mkF m 119 #[.val (.long q1), .second, .val (.long q2), .second, .val (.long uu), .second, .val (.int p3), .val (.long s0), .second, .val (.long s0), .second, .val (.int (7 : Int32)), .val (.ref b2), .unset, .unset, .unset, .unset, .unset] []))
      refine OGo.step (fun uK kK => XS.aload X216.here hx rfl (hb hby at_119) rfl rfl kK) ?_
      refine OGo.step (fun uK kK => XS.lload X216.here hx rfl (hb hby at_121) rfl kK) ?_
      show OGo p e below _ (T216.setTop (mkF m 123 #[.val (.long q1), .second, .val (.long q2), .second, .val (.long uu), .second, .val (.int p3), .val (.long s0), .second, .val (.long s0), .second, .val (.int (7 : Int32)), .val (.ref b2), .unset, .unset, .unset, .unset, .unset] [(.long s0), (.ref b2)]))
      obtain ⟨cq223, kq223, q223a, q223b, q223c⟩ := isOf hZ rfl A2_217
      obtain ⟨_, _, ⟨T223, Lq223, kq_223, nq_223⟩, -, X223, ⟨Lc223, hQ223, lq223, yq223, zq223⟩, st223⟩ := X216.virtualBack hx (y := (⟨"com/example/graph_of_conflicts/graphofconflicts/engine/OpenSnapshots", "remove", "(J)Z"⟩ : MethodName)) (z := (⟨"com/example/graph_of_conflicts/graphofconflicts/engine/OpenSnapshots", "remove", "(J)Z"⟩ : MethodName)) hown (mvT hZ (hw _ (List.mem_of_getElem? (i := 52) rfl))) (mvT hZ (hw _ (List.mem_of_getElem? (i := 53) rfl))) (notFace_of_selects (args := #[]) (mvT hZ (hw _ (List.mem_of_getElem? (i := 55) rfl)))) (mvT hZ (hw _ (List.mem_of_getElem? (i := 55) rfl))) (mvT hZ (hw _ (List.mem_of_getElem? (i := 54) rfl))) (by decide) (backOf (W := 0) (rmr2 l Z a0 hw [] b2 aS kS s0 (0 : Int64) (0 : Int64) (0 : Int64) (0 : Int64) (0 : Int64) (0 : Int64) (0 : Int64) aH kH (2 : Int32) (0 : Int32) (0 : Int32) (0 : Int32) (0 : Int32) (0 : Int32) (0 : Int32) (0 : Int32) T216.heap n0 ZS216 Fs216 Fh216 Fn216 Vs216 Vh216 A2_217 gn_b2 gS gH ne_b2_aS ne_b2_aH neSH) hZ (hw _ (List.mem_of_getElem? (i := 56) rfl)) (hw _ (List.mem_of_getElem? (i := 7) rfl)) (by decide) (by decide)) q223a q223c (g := (mkF m 123 #[.val (.long q1), .second, .val (.long q2), .second, .val (.long uu), .second, .val (.int p3), .val (.long s0), .second, .val (.long s0), .second, .val (.int (7 : Int32)), .val (.ref b2), .unset, .unset, .unset, .unset, .unset] [(.long s0), (.ref b2)])) rfl (by rw [hml]; rfl) (Steps.refl _) (argsL := [(.long s0)]) (rest := []) (lenOf pd0_4 rfl) rfl (by show 2 * 0 + _ ≤ _; exact Nat.le_of_eq rfl) (hb hby at_123) (fun _ _ => ⟨rfl, rfl, (by decide : 3 + 0 ≤ _), (by decide : 19 + 0 ≤ _)⟩)
      dsimp only [Pt.U, Pt.locs, Pt.cells, Pt.slots] at X223 lq223 yq223 zq223 st223 hQ223
      subst lq223 yq223 zq223
      obtain ⟨rfl, Nq223, K223, Fs223, Fh223, Fn223, Vs223, Vh223⟩ := hQ223
      have A2_224 := (A2_217.keep K223)
      have ZS223 : n0 ≤ T223.heap.size := Nat.le_trans ZS216 K223.1
      have KC223 : Keep h0 T223.heap [] := KC216.trans K223 (allS (Or.inr sz_b2) (allS (Or.inr sz_aS) (allS (Or.inr sz_aH) all0)))
      have N223 := Fr.app N216 Nq223
      refine OGo.steps st223 ?_
      show OGo p e below _ (T223.setTop (mkF m 126 #[.val (.long q1), .second, .val (.long q2), .second, .val (.long uu), .second, .val (.int p3), .val (.long s0), .second, .val (.long s0), .second, .val (.int (7 : Int32)), .val (.ref b2), .unset, .unset, .unset, .unset, .unset] [(.int (0 : Int32))]))
      refine OGo.step (fun uK kK => XS.pop X223.here hx rfl (hb hby at_126) rfl rfl kK) ?_
      refine OGo.step (fun uK kK => XS.iload X223.here hx rfl (hb hby at_127) rfl kK) ?_
      refine OGo.step (fun uK kK => XS.iconst X223.here hx rfl (hb hby at_129) kK) ?_
      show OGo p e below _ (T223.setTop (mkF m 130 #[.val (.long q1), .second, .val (.long q2), .second, .val (.long uu), .second, .val (.int p3), .val (.long s0), .second, .val (.long s0), .second, .val (.int (7 : Int32)), .val (.ref b2), .unset, .unset, .unset, .unset, .unset] [(.int (5 : Int32)), (.int (7 : Int32))]))
      have hc130 : ¬ ((7 : Int32) = (5 : Int32)) := by decide
      refine OGo.step (fun uK kK => XS.icmpNo X223.here hx rfl (hb hby at_130) rfl (feq hc130).1 kK) ?_
      show OGo p e below _ (T223.setTop (mkF m 133 #[.val (.long q1), .second, .val (.long q2), .second, .val (.long uu), .second, .val (.int p3), .val (.long s0), .second, .val (.long s0), .second, .val (.int (7 : Int32)), .val (.ref b2), .unset, .unset, .unset, .unset, .unset] []))
      refine OGo.step (fun uK kK => XS.iload X223.here hx rfl (hb hby at_133) rfl kK) ?_
      refine OGo.step (fun uK kK => XS.bipush X223.here hx rfl (hb hby at_135) kK) ?_
      show OGo p e below _ (T223.setTop (mkF m 137 #[.val (.long q1), .second, .val (.long q2), .second, .val (.long uu), .second, .val (.int p3), .val (.long s0), .second, .val (.long s0), .second, .val (.int (7 : Int32)), .val (.ref b2), .unset, .unset, .unset, .unset, .unset] [(.int (7 : Int32)), (.int (7 : Int32))]))
      have hc137 : (7 : Int32) = (7 : Int32) := by decide
      refine OGo.step (fun uK kK => XS.icmpNo X223.here hx rfl (hb hby at_137) rfl (teq hc137).2 kK) ?_
      show OGo p e below _ (T223.setTop (mkF m 140 #[.val (.long q1), .second, .val (.long q2), .second, .val (.long uu), .second, .val (.int p3), .val (.long s0), .second, .val (.long s0), .second, .val (.int (7 : Int32)), .val (.ref b2), .unset, .unset, .unset, .unset, .unset] []))
      refine OGo.step (fun uK kK => XS.aload X223.here hx rfl (hb hby at_140) rfl rfl kK) ?_
      refine OGo.step (fun uK kK => XS.lload X223.here hx rfl (hb hby at_142) rfl kK) ?_
      show OGo p e below _ (T223.setTop (mkF m 144 #[.val (.long q1), .second, .val (.long q2), .second, .val (.long uu), .second, .val (.int p3), .val (.long s0), .second, .val (.long s0), .second, .val (.int (7 : Int32)), .val (.ref b2), .unset, .unset, .unset, .unset, .unset] [(.long s0), (.ref b2)]))
      obtain ⟨cq230, kq230, q230a, q230b, q230c⟩ := isOf hZ rfl A2_224
      obtain ⟨_, _, ⟨T230, Lq230, kq_230, nq_230⟩, -, X230, ⟨Lc230, hQ230, lq230, yq230, zq230⟩, st230⟩ := X223.virtualBack hx (y := (⟨"com/example/graph_of_conflicts/graphofconflicts/engine/OpenSnapshots", "remove", "(J)Z"⟩ : MethodName)) (z := (⟨"com/example/graph_of_conflicts/graphofconflicts/engine/OpenSnapshots", "remove", "(J)Z"⟩ : MethodName)) hown (mvT hZ (hw _ (List.mem_of_getElem? (i := 52) rfl))) (mvT hZ (hw _ (List.mem_of_getElem? (i := 53) rfl))) (notFace_of_selects (args := #[]) (mvT hZ (hw _ (List.mem_of_getElem? (i := 55) rfl)))) (mvT hZ (hw _ (List.mem_of_getElem? (i := 55) rfl))) (mvT hZ (hw _ (List.mem_of_getElem? (i := 54) rfl))) (by decide) (backOf (W := 0) (rmr1 l Z a0 hw [] b2 aS kS s0 (0 : Int64) (0 : Int64) (0 : Int64) (0 : Int64) (0 : Int64) (0 : Int64) (0 : Int64) aH kH (1 : Int32) (0 : Int32) (0 : Int32) (0 : Int32) (0 : Int32) (0 : Int32) (0 : Int32) (0 : Int32) T223.heap n0 ZS223 Fs223 Fh223 Fn223 Vs223 Vh223 A2_224 gn_b2 gS gH ne_b2_aS ne_b2_aH neSH) hZ (hw _ (List.mem_of_getElem? (i := 56) rfl)) (hw _ (List.mem_of_getElem? (i := 7) rfl)) (by decide) (by decide)) q230a q230c (g := (mkF m 144 #[.val (.long q1), .second, .val (.long q2), .second, .val (.long uu), .second, .val (.int p3), .val (.long s0), .second, .val (.long s0), .second, .val (.int (7 : Int32)), .val (.ref b2), .unset, .unset, .unset, .unset, .unset] [(.long s0), (.ref b2)])) rfl (by rw [hml]; rfl) (Steps.refl _) (argsL := [(.long s0)]) (rest := []) (lenOf pd0_4 rfl) rfl (by show 2 * 0 + _ ≤ _; exact Nat.le_of_eq rfl) (hb hby at_144) (fun _ _ => ⟨rfl, rfl, (by decide : 3 + 0 ≤ _), (by decide : 19 + 0 ≤ _)⟩)
      dsimp only [Pt.U, Pt.locs, Pt.cells, Pt.slots] at X230 lq230 yq230 zq230 st230 hQ230
      subst lq230 yq230 zq230
      obtain ⟨rfl, Nq230, K230, Fs230, Fh230, Fn230, Vs230, Vh230⟩ := hQ230
      have A2_231 := (A2_224.keep K230)
      have ZS230 : n0 ≤ T230.heap.size := Nat.le_trans ZS223 K230.1
      have KC230 : Keep h0 T230.heap [] := KC223.trans K230 (allS (Or.inr sz_b2) (allS (Or.inr sz_aS) (allS (Or.inr sz_aH) all0)))
      have N230 := Fr.app N223 Nq230
      refine OGo.steps st230 ?_
      show OGo p e below _ (T230.setTop (mkF m 147 #[.val (.long q1), .second, .val (.long q2), .second, .val (.long uu), .second, .val (.int p3), .val (.long s0), .second, .val (.long s0), .second, .val (.int (7 : Int32)), .val (.ref b2), .unset, .unset, .unset, .unset, .unset] [(.int (1 : Int32))]))
      refine OGo.step (fun uK kK => XS.pop X230.here hx rfl (hb hby at_147) rfl rfl kK) ?_
      refine OGo.step (fun uK kK => XS.iload X230.here hx rfl (hb hby at_148) rfl kK) ?_
      refine OGo.step (fun uK kK => XS.iconst X230.here hx rfl (hb hby at_150) kK) ?_
      show OGo p e below _ (T230.setTop (mkF m 151 #[.val (.long q1), .second, .val (.long q2), .second, .val (.long uu), .second, .val (.int p3), .val (.long s0), .second, .val (.long s0), .second, .val (.int (7 : Int32)), .val (.ref b2), .unset, .unset, .unset, .unset, .unset] [(.int (1 : Int32)), (.int (7 : Int32))]))
      have hc151 : ¬ ((7 : Int32) = (1 : Int32)) := by decide
      refine OGo.step (fun uK kK => XS.icmpNo X230.here hx rfl (hb hby at_151) rfl (feq hc151).1 kK) ?_
      show OGo p e below _ (T230.setTop (mkF m 154 #[.val (.long q1), .second, .val (.long q2), .second, .val (.long uu), .second, .val (.int p3), .val (.long s0), .second, .val (.long s0), .second, .val (.int (7 : Int32)), .val (.ref b2), .unset, .unset, .unset, .unset, .unset] []))
      refine OGo.step (fun uK kK => XS.iload X230.here hx rfl (hb hby at_154) rfl kK) ?_
      refine OGo.step (fun uK kK => XS.iconst X230.here hx rfl (hb hby at_156) kK) ?_
      show OGo p e below _ (T230.setTop (mkF m 157 #[.val (.long q1), .second, .val (.long q2), .second, .val (.long uu), .second, .val (.int p3), .val (.long s0), .second, .val (.long s0), .second, .val (.int (7 : Int32)), .val (.ref b2), .unset, .unset, .unset, .unset, .unset] [(.int (2 : Int32)), (.int (7 : Int32))]))
      have hc157 : ¬ ((7 : Int32) = (2 : Int32)) := by decide
      refine OGo.step (fun uK kK => XS.icmpNo X230.here hx rfl (hb hby at_157) rfl (feq hc157).1 kK) ?_
      show OGo p e below _ (T230.setTop (mkF m 160 #[.val (.long q1), .second, .val (.long q2), .second, .val (.long uu), .second, .val (.int p3), .val (.long s0), .second, .val (.long s0), .second, .val (.int (7 : Int32)), .val (.ref b2), .unset, .unset, .unset, .unset, .unset] []))
      refine OGo.step (fun uK kK => XS.iload X230.here hx rfl (hb hby at_160) rfl kK) ?_
      refine OGo.step (fun uK kK => XS.iconst X230.here hx rfl (hb hby at_162) kK) ?_
      show OGo p e below _ (T230.setTop (mkF m 163 #[.val (.long q1), .second, .val (.long q2), .second, .val (.long uu), .second, .val (.int p3), .val (.long s0), .second, .val (.long s0), .second, .val (.int (7 : Int32)), .val (.ref b2), .unset, .unset, .unset, .unset, .unset] [(.int (3 : Int32)), (.int (7 : Int32))]))
      have hc163 : ¬ ((7 : Int32) = (3 : Int32)) := by decide
      refine OGo.step (fun uK kK => XS.icmpNo X230.here hx rfl (hb hby at_163) rfl (feq hc163).1 kK) ?_
      show OGo p e below _ (T230.setTop (mkF m 166 #[.val (.long q1), .second, .val (.long q2), .second, .val (.long uu), .second, .val (.int p3), .val (.long s0), .second, .val (.long s0), .second, .val (.int (7 : Int32)), .val (.ref b2), .unset, .unset, .unset, .unset, .unset] []))
      refine OGo.step (fun uK kK => XS.iload X230.here hx rfl (hb hby at_166) rfl kK) ?_
      refine OGo.step (fun uK kK => XS.iconst X230.here hx rfl (hb hby at_168) kK) ?_
      show OGo p e below _ (T230.setTop (mkF m 169 #[.val (.long q1), .second, .val (.long q2), .second, .val (.long uu), .second, .val (.int p3), .val (.long s0), .second, .val (.long s0), .second, .val (.int (7 : Int32)), .val (.ref b2), .unset, .unset, .unset, .unset, .unset] [(.int (5 : Int32)), (.int (7 : Int32))]))
      have hc169 : ¬ ((7 : Int32) = (5 : Int32)) := by decide
      refine OGo.step (fun uK kK => XS.icmpNo X230.here hx rfl (hb hby at_169) rfl (feq hc169).1 kK) ?_
      show OGo p e below _ (T230.setTop (mkF m 172 #[.val (.long q1), .second, .val (.long q2), .second, .val (.long uu), .second, .val (.int p3), .val (.long s0), .second, .val (.long s0), .second, .val (.int (7 : Int32)), .val (.ref b2), .unset, .unset, .unset, .unset, .unset] []))
      refine OGo.step (fun uK kK => XS.iload X230.here hx rfl (hb hby at_172) rfl kK) ?_
      refine OGo.step (fun uK kK => XS.bipush X230.here hx rfl (hb hby at_174) kK) ?_
      show OGo p e below _ (T230.setTop (mkF m 176 #[.val (.long q1), .second, .val (.long q2), .second, .val (.long uu), .second, .val (.int p3), .val (.long s0), .second, .val (.long s0), .second, .val (.int (7 : Int32)), .val (.ref b2), .unset, .unset, .unset, .unset, .unset] [(.int (6 : Int32)), (.int (7 : Int32))]))
      have hc176 : ¬ ((7 : Int32) = (6 : Int32)) := by decide
      refine OGo.step (fun uK kK => XS.icmpYes X230.here hx rfl (pc0 := 176) (pc' := 183) rfl (hb hby at_176) rfl (feq hc176).2 (by decide) (by decide) kK) ?_
      show OGo p e below _ (T230.setTop (mkF m 183 #[.val (.long q1), .second, .val (.long q2), .second, .val (.long uu), .second, .val (.int p3), .val (.long s0), .second, .val (.long s0), .second, .val (.int (7 : Int32)), .val (.ref b2), .unset, .unset, .unset, .unset, .unset] []))
      refine OGo.step (fun uK kK => XS.iconst X230.here hx rfl (hb hby at_183) kK) ?_
      show OGo p e below _ (T230.setTop (mkF m 184 #[.val (.long q1), .second, .val (.long q2), .second, .val (.long uu), .second, .val (.int p3), .val (.long s0), .second, .val (.long s0), .second, .val (.int (7 : Int32)), .val (.ref b2), .unset, .unset, .unset, .unset, .unset] [(.int (0 : Int32))]))
      refine OGo.step (fun uK kK => XS.istore X230.here hx rfl (hb hby at_184) rfl (l' := #[.val (.long q1), .second, .val (.long q2), .second, .val (.long uu), .second, .val (.int p3), .val (.long s0), .second, .val (.long s0), .second, .val (.int (7 : Int32)), .val (.ref b2), .val (.int (0 : Int32)), .unset, .unset, .unset, .unset]) rfl kK) ?_
      refine OGo.step (fun uK kK => XS.iload X230.here hx rfl (hb hby at_186) rfl kK) ?_
      refine OGo.step (fun uK kK => XS.iconst X230.here hx rfl (hb hby at_188) kK) ?_
      show OGo p e below _ (T230.setTop (mkF m 189 #[.val (.long q1), .second, .val (.long q2), .second, .val (.long uu), .second, .val (.int p3), .val (.long s0), .second, .val (.long s0), .second, .val (.int (7 : Int32)), .val (.ref b2), .val (.int (0 : Int32)), .unset, .unset, .unset, .unset] [(.int (3 : Int32)), (.int (7 : Int32))]))
      have hc189 : ¬ ((7 : Int32) = (3 : Int32)) := by decide
      refine OGo.step (fun uK kK => XS.icmpYes X230.here hx rfl (pc0 := 189) (pc' := 197) rfl (hb hby at_189) rfl (feq hc189).2 (by decide) (by decide) kK) ?_
      show OGo p e below _ (T230.setTop (mkF m 197 #[.val (.long q1), .second, .val (.long q2), .second, .val (.long uu), .second, .val (.int p3), .val (.long s0), .second, .val (.long s0), .second, .val (.int (7 : Int32)), .val (.ref b2), .val (.int (0 : Int32)), .unset, .unset, .unset, .unset] []))
      refine OGo.step (fun uK kK => XS.lload X230.here hx rfl (hb hby at_197) rfl kK) ?_
      show OGo p e below _ (T230.setTop (mkF m 199 #[.val (.long q1), .second, .val (.long q2), .second, .val (.long uu), .second, .val (.int p3), .val (.long s0), .second, .val (.long s0), .second, .val (.int (7 : Int32)), .val (.ref b2), .val (.int (0 : Int32)), .unset, .unset, .unset, .unset] [(.long s0)]))
      refine OGo.step (fun uK kK => XS.lstore X230.here hx rfl (hb hby at_199) rfl (l' := #[.val (.long q1), .second, .val (.long q2), .second, .val (.long uu), .second, .val (.int p3), .val (.long s0), .second, .val (.long s0), .second, .val (.int (7 : Int32)), .val (.ref b2), .val (.int (0 : Int32)), .val (.long s0), .second, .unset, .unset]) rfl kK) ?_
      refine OGo.step (fun uK kK => XS.iload X230.here hx rfl (hb hby at_201) rfl kK) ?_
      show OGo p e below _ (T230.setTop (mkF m 203 #[.val (.long q1), .second, .val (.long q2), .second, .val (.long uu), .second, .val (.int p3), .val (.long s0), .second, .val (.long s0), .second, .val (.int (7 : Int32)), .val (.ref b2), .val (.int (0 : Int32)), .val (.long s0), .second, .unset, .unset] [(.int (0 : Int32))]))
      have hc203 : (0 : Int32) = (0 : Int32) := by decide
      refine OGo.step (fun uK kK => XS.ifNo X230.here hx rfl (hb hby at_203) rfl ((if0 _ _).trans (teq hc203).2) kK) ?_
      show OGo p e below _ (T230.setTop (mkF m 206 #[.val (.long q1), .second, .val (.long q2), .second, .val (.long uu), .second, .val (.int p3), .val (.long s0), .second, .val (.long s0), .second, .val (.int (7 : Int32)), .val (.ref b2), .val (.int (0 : Int32)), .val (.long s0), .second, .unset, .unset] []))
      refine OGo.step (fun uK kK => X230.ldc2J hx hown (mvT hZ (hw _ (List.mem_of_getElem? (i := 45) rfl))) rfl (hb hby at_206) kK) ?_
      show OGo p e below _ (T230.setTop (mkF m 209 #[.val (.long q1), .second, .val (.long q2), .second, .val (.long uu), .second, .val (.int p3), .val (.long s0), .second, .val (.long s0), .second, .val (.int (7 : Int32)), .val (.ref b2), .val (.int (0 : Int32)), .val (.long s0), .second, .unset, .unset] [(.long (-1 : Int64))]))
      refine OGo.step (fun uK kK => XS.lstore X230.here hx rfl (hb hby at_209) rfl (l' := #[.val (.long q1), .second, .val (.long q2), .second, .val (.long uu), .second, .val (.int p3), .val (.long s0), .second, .val (.long s0), .second, .val (.int (7 : Int32)), .val (.ref b2), .val (.int (0 : Int32)), .val (.long s0), .second, .val (.long (-1 : Int64)), .second]) rfl kK) ?_
      show OGo p e below _ (T230.setTop (mkF m 211 #[.val (.long q1), .second, .val (.long q2), .second, .val (.long uu), .second, .val (.int p3), .val (.long s0), .second, .val (.long s0), .second, .val (.int (7 : Int32)), .val (.ref b2), .val (.int (0 : Int32)), .val (.long s0), .second, .val (.long (-1 : Int64)), .second] []))
      refine OGo.step (fun uK kK => XS.goto X230.here hx rfl (pc0 := 211) (pc' := 234) rfl (hb hby at_211) (by decide) (by decide) kK) ?_
      refine OGo.step (fun uK kK => XS.aload X230.here hx rfl (hb hby at_234) rfl rfl kK) ?_
      refine OGo.step (fun uK kK => XS.lload X230.here hx rfl (hb hby at_236) rfl kK) ?_
      show OGo p e below _ (T230.setTop (mkF m 238 #[.val (.long q1), .second, .val (.long q2), .second, .val (.long uu), .second, .val (.int p3), .val (.long s0), .second, .val (.long s0), .second, .val (.int (7 : Int32)), .val (.ref b2), .val (.int (0 : Int32)), .val (.long s0), .second, .val (.long (-1 : Int64)), .second] [(.long uu), (.ref b2)]))
      obtain ⟨cq237, kq237, q237a, q237b, q237c⟩ := isOf hZ rfl A2_231
      obtain ⟨_, _, ⟨T237, Lq237, kq_237, nq_237⟩, -, X237, ⟨Lc237, hQ237, lq237, yq237, zq237⟩, st237⟩ := X230.virtualBack hx (y := (⟨"com/example/graph_of_conflicts/graphofconflicts/engine/OpenSnapshots", "earliestBefore", "(J)J"⟩ : MethodName)) (z := (⟨"com/example/graph_of_conflicts/graphofconflicts/engine/OpenSnapshots", "earliestBefore", "(J)J"⟩ : MethodName)) hown (mvT hZ (hw _ (List.mem_of_getElem? (i := 46) rfl))) (mvT hZ (hw _ (List.mem_of_getElem? (i := 47) rfl))) (notFace_of_selects (args := #[]) (mvT hZ (hw _ (List.mem_of_getElem? (i := 49) rfl)))) (mvT hZ (hw _ (List.mem_of_getElem? (i := 49) rfl))) (mvT hZ (hw _ (List.mem_of_getElem? (i := 48) rfl))) (by decide) (backOf (W := 0) (rme0 l Z a0 hw [] b2 uu  T230.heap n0 ZS230 Fn230) hZ (hw _ (List.mem_of_getElem? (i := 50) rfl)) (hw _ (List.mem_of_getElem? (i := 7) rfl)) (by decide) (by decide)) q237a q237c (g := (mkF m 238 #[.val (.long q1), .second, .val (.long q2), .second, .val (.long uu), .second, .val (.int p3), .val (.long s0), .second, .val (.long s0), .second, .val (.int (7 : Int32)), .val (.ref b2), .val (.int (0 : Int32)), .val (.long s0), .second, .val (.long (-1 : Int64)), .second] [(.long uu), (.ref b2)])) rfl (by rw [hml]; rfl) (Steps.refl _) (argsL := [(.long uu)]) (rest := []) (lenOf pd0_2 rfl) rfl (by show 2 * 0 + _ ≤ _; exact Nat.le_of_eq rfl) (hb hby at_238) (fun _ _ => ⟨rfl, rfl, (by decide : 3 + 0 ≤ _), (by decide : 19 + 0 ≤ _)⟩)
      dsimp only [Pt.U, Pt.locs, Pt.cells, Pt.slots] at X237 lq237 yq237 zq237 st237 hQ237
      subst lq237 yq237 zq237
      obtain ⟨rfl, Nq237, e237⟩ := hQ237
      have N237 := Fr.app N230 Nq237
      refine OGo.steps st237 ?_
      show OGo p e below _ (T237.setTop (mkF m 241 #[.val (.long q1), .second, .val (.long q2), .second, .val (.long uu), .second, .val (.int p3), .val (.long s0), .second, .val (.long s0), .second, .val (.int (7 : Int32)), .val (.ref b2), .val (.int (0 : Int32)), .val (.long s0), .second, .val (.long (-1 : Int64)), .second] [(.long (-1 : Int64))]))
      refine OGo.step (fun uK kK => XS.lload X237.here hx rfl (hb hby at_241) rfl kK) ?_
      show OGo p e below _ (T237.setTop (mkF m 243 #[.val (.long q1), .second, .val (.long q2), .second, .val (.long uu), .second, .val (.int p3), .val (.long s0), .second, .val (.long s0), .second, .val (.int (7 : Int32)), .val (.ref b2), .val (.int (0 : Int32)), .val (.long s0), .second, .val (.long (-1 : Int64)), .second] [(.long (-1 : Int64)), (.long (-1 : Int64))]))
      refine OGo.step (fun uK kK => XS.lcmp X237.here hx rfl (hb hby at_243) rfl kK) ?_
      show OGo p e below _ (T237.setTop (mkF m 244 #[.val (.long q1), .second, .val (.long q2), .second, .val (.long uu), .second, .val (.int p3), .val (.long s0), .second, .val (.long s0), .second, .val (.int (7 : Int32)), .val (.ref b2), .val (.int (0 : Int32)), .val (.long s0), .second, .val (.long (-1 : Int64)), .second] [(.int (lcmpW (-1 : Int64) (-1 : Int64)))]))
      have hc244 : (-1 : Int64) = (-1 : Int64) := rfl
      refine OGo.step (fun uK kK => XS.ifNo X237.here hx rfl (hb hby at_244) rfl ((if0 _ _).trans (teq ((lw_eq _ _).mpr hc244)).2) kK) ?_
      show OGo p e below _ (T237.setTop (mkF m 247 #[.val (.long q1), .second, .val (.long q2), .second, .val (.long uu), .second, .val (.int p3), .val (.long s0), .second, .val (.long s0), .second, .val (.int (7 : Int32)), .val (.ref b2), .val (.int (0 : Int32)), .val (.long s0), .second, .val (.long (-1 : Int64)), .second] []))
      refine OGo.step (fun uK kK => XS.iconst X237.here hx rfl (hb hby at_247) kK) ?_
      show OGo p e below _ (T237.setTop (mkF m 248 #[.val (.long q1), .second, .val (.long q2), .second, .val (.long uu), .second, .val (.int p3), .val (.long s0), .second, .val (.long s0), .second, .val (.int (7 : Int32)), .val (.ref b2), .val (.int (0 : Int32)), .val (.long s0), .second, .val (.long (-1 : Int64)), .second] [(.int (1 : Int32))]))
      refine OGo.step (fun uK kK => XS.goto X237.here hx rfl (pc0 := 248) (pc' := 252) rfl (hb hby at_248) (by decide) (by decide) kK) ?_
      show OGo p e below _ (T237.setTop (mkF m 252 #[.val (.long q1), .second, .val (.long q2), .second, .val (.long uu), .second, .val (.int p3), .val (.long s0), .second, .val (.long s0), .second, .val (.int (7 : Int32)), .val (.ref b2), .val (.int (0 : Int32)), .val (.long s0), .second, .val (.long (-1 : Int64)), .second] [(.int (1 : Int32))]))
      exact OGo.retN X237 hx Bd.notSynchronized (t := .boolean) Bd.returns (by simp) (hb hby at_252) (by decide) (by decide) (by show Q0 Z q1 q2 uu p3 h0 n0 _ T237.heap _; rw [e237]; exact ⟨rfl, N237⟩)
set_option maxRecDepth 65536 in
set_option maxHeartbeats 40000000 in
theorem comes_1 {Post : Tables → Env → Array Value → State → Outcome → State → Prop} (hpost : ∀ tb e args s v u, (limb_1_1.after args s (.returned v) u = true ∧ limb_1_2.after args s (.returned v) u = true ∧ True) → FrameEnd s (.returned v) u (Jvm.fieldLocs frame_1_writes args s ++ Jvm.arrayLocs frame_1_arrays args s ++ Jvm.staticLocs frame_1_statics s) 16 128 → Post tb e args s (.returned v) u) :
    ArmFor flags0 classFile x code maxLocals ret World_1 tables_1 room_1 Calls_1 rest_1 Pre_1 Post := by
  intro l hfl _ _ p e ha hc hk s m args below hf hA hF happ hP
  obtain ⟨hcalls, hrest, hpre⟩ := hP
  obtain ⟨-, -, -, hnamed, -, -, -, hat⟩ := (Spec.applies_iff hf).mp happ
  obtain ⟨hg, hn⟩ := and_e (Cond.before_iff.mp (show (Jvm.Cond.and given_1 narrow_1).before args s = true from hpre))
  obtain ⟨hcount, hg0⟩ := and_e hg
  obtain ⟨ga0, hg1⟩ := and_e hg0
  obtain ⟨ga1, hg2⟩ := and_e hg1
  obtain ⟨ga2, hg3⟩ := and_e hg2
  have ga3 := hg3
  obtain ⟨w0, w1, w2, w3, rfl⟩ : ∃ w0 w1 w2 w3 : Value, args = #[w0, w1, w2, w3] := by
    have hs : args.size = 4 := by simpa [Cond.value, given_1] using hcount
    obtain ⟨L⟩ := args
    match L, hs with
    | [w0, w1, w2, w3], _ => exact ⟨w0, w1, w2, w3, rfl⟩
  have hw := fun d (hd : d ∈ tables_1) => atoms_spec (ws := Jvm.Cond.code x code maxLocals ret :: tables_1) hat d (List.mem_cons_of_mem _ hd)
  have hfit : Fit s := fun {y c} hc i hi => by
    obtain ⟨ha, rfl⟩ := Array.getElem?_eq_some_iff.mp hc
    have q := List.all_eq_true.mp ((Array.all_eq_true_iff_forall_mem.mp hF) _ (Array.getElem_mem ha)) i (List.mem_range.mpr hi)
    simpa [Array.getElem?_eq_getElem hi] using q
  obtain ⟨i0, ei0⟩ := isL_v ga0
  obtain rfl : w0 = (.long i0) := Option.some.inj ei0
  obtain ⟨i1, ei1⟩ := isL_v ga1
  obtain rfl : w1 = (.long i1) := Option.some.inj ei1
  obtain ⟨i2, ei2⟩ := isL_v ga2
  obtain rfl : w2 = (.long i2) := Option.some.inj ei2
  obtain ⟨i3, ei3⟩ := is_v ga3
  obtain rfl : w3 = (.int i3) := Option.some.inj ei3
  obtain ⟨n, o, h1, h2, h3, _, L, rfl, ⟨rfl, N⟩, hq⟩ := rm0 l s _ hw tables_1 i0 i1 i2 i3  s.heap s.heap.size (Nat.le_refl _)  p e ha hc hk s m _ below hf ((Spec.applies_iff_loose hf).mp happ).1 ⟨rfl, State.Warmed39.refl s, rfl⟩ trivial
  refine ⟨n, _, h1, h2, h3, hpost _ _ _ _ _ _ ⟨Cond.after_iff.mpr rfl, Cond.after_iff.mpr (eq_i res_at (Term.int_eval (1)) rfl), trivial⟩ ⟨hq.1, hq.2.1, (hq.2.2.sift fun y hy => Or.inr (N y hy)).mono (by decide) (by decide)⟩⟩
theorem main_1_1 : Claimed_1_1 := comes_1 fun _ _ _ _ _ _ h hF => ⟨h.1, hF⟩
theorem main_1_2 : Claimed_1_2 := comes_1 fun _ _ _ _ _ _ h hF => ⟨h.2.1, hF⟩
end Jvm.Pilot.@@N@@
namespace Jvm.Pilot.@@N@@
open Jvm Jvm.ClassFile Sem Op Lib Jvm.Free Jvm.Stand Jvm.Pilot.@@N@@.Jvm.D
/-! MADE BY PROGRAM (witnessworld.py) out of the Statement's table words and the real class files: 14 classes; the members and pool entries that the words name. The judged class is class 1, her method 1. -/
namespace start1
open Jvm.ClassFile
def u (s : String) : CpInfo := .utf8 (stringToUtf16 s)
/-- a pool by its gaps: so many unusable entries, then the entry; so many at the end -/
def gap : Nat → List CpInfo → List CpInfo
  | 0, r => r
  | n + 1, r => .unusable :: gap n r
def poolList (es : List (Nat × CpInfo)) (last : Nat) : List CpInfo := es.foldr (fun e r => gap e.1 (e.2 :: r)) (gap last [])
def pool (es : List (Nat × CpInfo)) (last : Nat) : Array CpInfo := ⟨poolList es last⟩
def fileOf (pool : Array CpInfo) (this : Nat) (attrs : Array Attribute := #[]) (ms : Array MethodInfo := #[]) (fl : Nat := 33) (sup : Nat := 0) (ifs : Array Nat := #[]) (fds : Array FieldInfo := #[]) : ClassFile where
  minorVersion := 0
  majorVersion := 65
  constantPool := pool
  accessFlags := fl
  thisClass := this
  superClass := sup
  interfaces := ifs
  fields := fds
  methods := ms
  attributes := attrs
def plain (name : String) (sup : Option ClassId) : Class where
  name := name
  kind := .ordinary
  loader := none
  accessFlags := 33
  super := sup
  interfaces := #[]
  cf := none
  fields := #[]
  methods := #[]
  instanceTypes := #[]
  staticTypes := #[]
  resolved := #[]
  callSites := []
  init := .initialized
  statics := none
  mirror := none

def pool0 : Array CpInfo := pool [(5, u "<init>"), (0, u "()V"), (1, .class_ 10), (1, u "java/lang/Object")] 113

def k0c0 : Code := { maxStack := 0, maxLocals := 1, code := object_method_1_code, exceptionTable := #[], attributes := #[] }
def k0m0 : Method := { name := "<init>", desc := "()V", sig := { parameters := [], returnType := none }, accessFlags := 1, code := some k0c0 }
/-- java/lang/Object -/
def k0 : Class := { plain "java/lang/Object" none with
  accessFlags := 33
  interfaces := #[]
  cf := some (fileOf pool0 8 #[] #[{ accessFlags := 1, nameIndex := 5, descriptorIndex := 6, attributes := #[] }] 33 0 #[] #[])
  fields := #[]
  methods := #[k0m0]
  instanceTypes := #[]
  staticTypes := #[]
  resolved := Array.replicate 124 none
  statics := none }

def pool1 : Array CpInfo := pool [(2, .class_ 4), (0, .nameAndType 5 6), (0, u "java/lang/Object"), (0, u "<init>"), (0, u "()V"), (2, .long 9223372036854775807), (1, .methodref 12 13), (0, .class_ 14), (0, .nameAndType 15 16), (0, u "java/lang/Math"), (0, u "max"), (0, u "(JJ)J"), (0, .class_ 18), (0, u "com/example/graph_of_conflicts/graphofconflicts/engine/OpenSnapshots"), (0, .methodref 17 3), (0, .methodref 17 21), (0, .nameAndType 22 23), (0, u "add"), (0, u "(J)V"), (0, .methodref 17 25), (0, .nameAndType 26 27), (0, u "remove"), (0, u "(J)Z"), (0, .long 18446744073709551615), (1, .methodref 17 31), (0, .nameAndType 32 33), (0, u "earliestBefore"), (0, u "(J)J"), (0, .class_ 35), (0, u "com/example/graph_of_conflicts/graphofconflicts/engine/OpenSnapshotsEarliestBeforePinLaw"), (2, u "law"), (0, u "(JJJI)Z")] 3

def k1m0 : Method := { name := "<init>", desc := "()V", sig := { parameters := [], returnType := none }, accessFlags := 1, code := none }
def k1c1 : Code := { maxStack := 6, maxLocals := 18, code := code, exceptionTable := #[], attributes := #[] }
def k1m1 : Method := { name := "law", desc := "(JJJI)Z", sig := { parameters := [.long, .long, .long, .int], returnType := some .boolean }, accessFlags := 9, code := some k1c1 }
/-- com/example/graph_of_conflicts/graphofconflicts/engine/OpenSnapshotsEarliestBeforePinLaw -/
def k1 : Class := { plain "com/example/graph_of_conflicts/graphofconflicts/engine/OpenSnapshotsEarliestBeforePinLaw" (some 0) with
  accessFlags := 49
  interfaces := #[]
  cf := some (fileOf pool1 34 #[] #[{ accessFlags := 1, nameIndex := 5, descriptorIndex := 6, attributes := #[] }, { accessFlags := 9, nameIndex := 38, descriptorIndex := 39, attributes := #[] }] 49 2 #[] #[])
  fields := #[]
  methods := #[k1m0, k1m1]
  instanceTypes := #[]
  staticTypes := #[]
  resolved := Array.replicate 43 none
  statics := none }

def pool2 : Array CpInfo := pool [(1, .class_ 2), (0, u "java/lang/Math"), (1, .class_ 6), (1, u "java/lang/Object"), (0, u "<init>"), (0, u "()V"), (89, .class_ 100), (1, u "java/lang/Math$RandomNumberGeneratorHolder"), (20, u "(JJ)J"), (50, u "negativeZeroFloatBits"), (0, u "J"), (2, u "negativeZeroDoubleBits"), (21, u "max"), (46, u "$assertionsDisabled"), (0, u "Z"), (91, u "twoToTheDoubleScaleDown"), (0, u "D"), (4, u "twoToTheDoubleScaleUp"), (9, u "E"), (3, u "PI"), (2, u "TAU"), (2, u "DEGREES_TO_RADIANS"), (0, u "RADIANS_TO_DEGREES")] 94

def k2m0 : Method := { name := "<init>", desc := "()V", sig := { parameters := [], returnType := none }, accessFlags := 2, code := none }
def k2c1 : Code := { maxStack := 4, maxLocals := 4, code := jdk_29_method_66_code, exceptionTable := #[], attributes := #[] }
def k2m1 : Method := { name := "max", desc := "(JJ)J", sig := { parameters := [.long, .long], returnType := some .long }, accessFlags := 9, code := some k2c1 }
/-- java/lang/Math -/
def k2 : Class := { plain "java/lang/Math" (some 0) with
  accessFlags := 49
  interfaces := #[]
  cf := some (fileOf pool2 1 #[.nestMembers #[98]] #[{ accessFlags := 2, nameIndex := 7, descriptorIndex := 8, attributes := #[] }, { accessFlags := 9, nameIndex := 198, descriptorIndex := 121, attributes := #[] }] 49 4 #[] #[{ accessFlags := 25, nameIndex := 354, descriptorIndex := 339, attributes := #[] }, { accessFlags := 25, nameIndex := 358, descriptorIndex := 339, attributes := #[] }, { accessFlags := 25, nameIndex := 361, descriptorIndex := 339, attributes := #[] }, { accessFlags := 26, nameIndex := 364, descriptorIndex := 339, attributes := #[] }, { accessFlags := 26, nameIndex := 365, descriptorIndex := 339, attributes := #[] }, { accessFlags := 26, nameIndex := 172, descriptorIndex := 173, attributes := #[] }, { accessFlags := 26, nameIndex := 176, descriptorIndex := 173, attributes := #[] }, { accessFlags := 8, nameIndex := 344, descriptorIndex := 339, attributes := #[] }, { accessFlags := 8, nameIndex := 338, descriptorIndex := 339, attributes := #[] }, { accessFlags := 4120, nameIndex := 245, descriptorIndex := 246, attributes := #[] }])
  fields := #[{ name := "E", type := .double, accessFlags := 25, slot := 0, constantValue := 0 }, { name := "PI", type := .double, accessFlags := 25, slot := 1, constantValue := 0 }, { name := "TAU", type := .double, accessFlags := 25, slot := 2, constantValue := 0 }, { name := "DEGREES_TO_RADIANS", type := .double, accessFlags := 26, slot := 3, constantValue := 0 }, { name := "RADIANS_TO_DEGREES", type := .double, accessFlags := 26, slot := 4, constantValue := 0 }, { name := "negativeZeroFloatBits", type := .long, accessFlags := 26, slot := 5, constantValue := 0 }, { name := "negativeZeroDoubleBits", type := .long, accessFlags := 26, slot := 6, constantValue := 0 }, { name := "twoToTheDoubleScaleUp", type := .double, accessFlags := 8, slot := 7, constantValue := 0 }, { name := "twoToTheDoubleScaleDown", type := .double, accessFlags := 8, slot := 8, constantValue := 0 }, { name := "$assertionsDisabled", type := .boolean, accessFlags := 4120, slot := 9, constantValue := 0 }]
  methods := #[k2m0, k2m1]
  instanceTypes := #[]
  staticTypes := #[.double, .double, .double, .double, .double, .long, .long, .double, .double, .boolean]
  resolved := Array.replicate 460 none
  statics := none }

def pool3 : Array CpInfo := pool [(1, .methodref 2 3), (0, .class_ 4), (0, .nameAndType 5 6), (0, u "java/lang/Object"), (0, u "<init>"), (0, u "()V"), (0, .fieldref 8 9), (0, .class_ 10), (0, .nameAndType 11 12), (0, u "com/example/graph_of_conflicts/graphofconflicts/engine/OpenSnapshots"), (0, u "snapshots"), (0, u "[J"), (0, .fieldref 8 14), (0, .nameAndType 15 16), (0, u "holders"), (0, u "[I"), (0, .methodref 8 18), (0, .nameAndType 19 20), (0, u "indexOf"), (0, u "(J)I"), (0, .fieldref 8 22), (0, .nameAndType 23 24), (0, u "size"), (0, u "I"), (1, .class_ 28), (1, u "java/util/Arrays"), (5, .methodref 35 36), (0, .class_ 37), (0, .nameAndType 38 39), (0, u "java/lang/System"), (0, u "arraycopy"), (0, u "(Ljava/lang/Object;ILjava/lang/Object;II)V"), (0, .long 18446744073709551615), (1, .methodref 26 43), (0, .nameAndType 44 45), (0, u "binarySearch"), (0, u "([JIIJ)I"), (2, u "add"), (0, u "(J)V"), (1, u "remove"), (0, u "(J)Z"), (2, u "earliestBefore"), (0, u "(J)J")] 2

def k3c0 : Code := { maxStack := 2, maxLocals := 1, code := prog_55_method_1_code, exceptionTable := #[], attributes := #[] }
def k3m0 : Method := { name := "<init>", desc := "()V", sig := { parameters := [], returnType := none }, accessFlags := 0, code := some k3c0 }
def k3c1 : Code := { maxStack := 6, maxLocals := 5, code := prog_55_method_2_code, exceptionTable := #[], attributes := #[] }
def k3m1 : Method := { name := "add", desc := "(J)V", sig := { parameters := [.long], returnType := none }, accessFlags := 0, code := some k3c1 }
def k3c2 : Code := { maxStack := 6, maxLocals := 4, code := prog_55_method_3_code, exceptionTable := #[], attributes := #[] }
def k3m2 : Method := { name := "remove", desc := "(J)Z", sig := { parameters := [.long], returnType := some .boolean }, accessFlags := 0, code := some k3c2 }
def k3c3 : Code := { maxStack := 4, maxLocals := 3, code := prog_55_method_5_code, exceptionTable := #[], attributes := #[] }
def k3m3 : Method := { name := "earliestBefore", desc := "(J)J", sig := { parameters := [.long], returnType := some .long }, accessFlags := 0, code := some k3c3 }
def k3c4 : Code := { maxStack := 5, maxLocals := 3, code := prog_55_method_6_code, exceptionTable := #[], attributes := #[] }
def k3m4 : Method := { name := "indexOf", desc := "(J)I", sig := { parameters := [.long], returnType := some .int }, accessFlags := 2, code := some k3c4 }
/-- com/example/graph_of_conflicts/graphofconflicts/engine/OpenSnapshots -/
def k3 : Class := { plain "com/example/graph_of_conflicts/graphofconflicts/engine/OpenSnapshots" (some 0) with
  accessFlags := 32
  interfaces := #[]
  cf := some (fileOf pool3 8 #[] #[{ accessFlags := 0, nameIndex := 5, descriptorIndex := 6, attributes := #[] }, { accessFlags := 0, nameIndex := 48, descriptorIndex := 49, attributes := #[] }, { accessFlags := 0, nameIndex := 51, descriptorIndex := 52, attributes := #[] }, { accessFlags := 0, nameIndex := 55, descriptorIndex := 56, attributes := #[] }, { accessFlags := 2, nameIndex := 19, descriptorIndex := 20, attributes := #[] }] 32 2 #[] #[{ accessFlags := 2, nameIndex := 11, descriptorIndex := 12, attributes := #[] }, { accessFlags := 2, nameIndex := 15, descriptorIndex := 16, attributes := #[] }, { accessFlags := 2, nameIndex := 23, descriptorIndex := 24, attributes := #[] }])
  fields := #[{ name := "snapshots", type := (.array .long), accessFlags := 2, slot := 0, constantValue := 0 }, { name := "holders", type := (.array .int), accessFlags := 2, slot := 1, constantValue := 0 }, { name := "size", type := .int, accessFlags := 2, slot := 2, constantValue := 0 }]
  methods := #[k3m0, k3m1, k3m2, k3m3, k3m4]
  instanceTypes := #[(.array .long), (.array .int), .int]
  staticTypes := #[]
  resolved := Array.replicate 59 none
  statics := none }

def pool4 : Array CpInfo := pool [(2, .class_ 4), (1, u "java/lang/Object"), (0, u "<init>"), (0, u "()V"), (6, .methodref 14 15), (0, .class_ 16), (0, .nameAndType 17 18), (0, u "java/util/Arrays"), (0, u "rangeCheck"), (0, u "(III)V"), (55, .class_ 76), (1, u "java/util/Arrays$NaturalOrder"), (36, .class_ 115), (1, u "java/util/Arrays$LegacyMergeSort"), (1, u "Z"), (87, .methodref 14 206), (0, .nameAndType 207 208), (0, u "binarySearch0"), (0, u "([JIIJ)I"), (166, .class_ 376), (0, u "java/util/Arrays$ArrayList"), (68, u "$assertionsDisabled"), (269, u "MIN_ARRAY_SORT_GRAN"), (0, u "I"), (2, u "INSERTIONSORT_THRESHOLD"), (74, u "binarySearch"), (180, .class_ 976), (0, u "java/util/Arrays$ArrayItr")] 52

def k4m0 : Method := { name := "<init>", desc := "()V", sig := { parameters := [], returnType := none }, accessFlags := 2, code := none }
def k4c1 : Code := { maxStack := 4, maxLocals := 3, code := jdk_65_method_30_code, exceptionTable := #[], attributes := #[] }
def k4m1 : Method := { name := "rangeCheck", desc := "(III)V", sig := { parameters := [.int, .int, .int], returnType := none }, accessFlags := 8, code := some k4c1 }
def k4c2 : Code := { maxStack := 5, maxLocals := 5, code := jdk_65_method_55_code, exceptionTable := #[], attributes := #[] }
def k4m2 : Method := { name := "binarySearch", desc := "([JIIJ)I", sig := { parameters := [(.array .long), .int, .int, .long], returnType := some .int }, accessFlags := 9, code := some k4c2 }
def k4c3 : Code := { maxStack := 4, maxLocals := 10, code := jdk_65_method_56_code, exceptionTable := #[], attributes := #[] }
def k4m3 : Method := { name := "binarySearch0", desc := "([JIIJ)I", sig := { parameters := [(.array .long), .int, .int, .long], returnType := some .int }, accessFlags := 10, code := some k4c3 }
/-- java/util/Arrays -/
def k4 : Class := { plain "java/util/Arrays" (some 0) with
  accessFlags := 49
  interfaces := #[]
  cf := some (fileOf pool4 14 #[.nestMembers #[975, 375, 113, 74]] #[{ accessFlags := 2, nameIndex := 5, descriptorIndex := 6, attributes := #[] }, { accessFlags := 8, nameIndex := 17, descriptorIndex := 18, attributes := #[] }, { accessFlags := 9, nameIndex := 794, descriptorIndex := 208, attributes := #[] }, { accessFlags := 10, nameIndex := 207, descriptorIndex := 208, attributes := #[] }] 49 2 #[] #[{ accessFlags := 26, nameIndex := 715, descriptorIndex := 716, attributes := #[] }, { accessFlags := 26, nameIndex := 719, descriptorIndex := 716, attributes := #[] }, { accessFlags := 4120, nameIndex := 445, descriptorIndex := 117, attributes := #[] }])
  fields := #[{ name := "MIN_ARRAY_SORT_GRAN", type := .int, accessFlags := 26, slot := 0, constantValue := 0 }, { name := "INSERTIONSORT_THRESHOLD", type := .int, accessFlags := 26, slot := 1, constantValue := 0 }, { name := "$assertionsDisabled", type := .boolean, accessFlags := 4120, slot := 2, constantValue := 0 }]
  methods := #[k4m0, k4m1, k4m2, k4m3]
  instanceTypes := #[]
  staticTypes := #[.int, .int, .boolean]
  resolved := Array.replicate 1029 none
  statics := none }

def pool5 : Array CpInfo := pool [(2, .class_ 4), (1, u "java/lang/Object"), (0, u "<init>"), (0, u "()V"), (1, .class_ 10), (1, u "java/lang/System"), (0, u "allowSecurityManager"), (0, u "I"), (16, u "cons"), (0, u "Ljava/io/Console;"), (77, .class_ 110), (1, u "java/lang/System$CallersHolder"), (43, u "initialErrStream"), (0, u "Ljava/io/PrintStream;"), (19, u "security"), (0, u "Ljava/lang/SecurityManager;"), (31, .class_ 209), (0, u "java/lang/System$1"), (7, u "props"), (0, u "Ljava/util/Properties;"), (2, u "lineSeparator"), (0, u "Ljava/lang/String;"), (96, .class_ 321), (1, u "java/lang/System$LoggerFinder"), (5, .class_ 328), (0, u "java/lang/System$Logger"), (67, u "err"), (2, u "out"), (91, u "notSupportedJnuEncoding"), (15, u "in"), (17, u "initialIn"), (0, u "Ljava/io/InputStream;"), (35, u "bootLayer"), (0, u "Ljava/lang/ModuleLayer;"), (99, .class_ 664), (0, u "java/lang/System$2"), (9, u "NEVER"), (2, u "MAYBE"), (49, u "arraycopy"), (0, u "(Ljava/lang/Object;ILjava/lang/Object;II)V"), (72, .class_ 802), (0, u "java/lang/System$Logger$Level")] 31

def k5m0 : Method := { name := "<init>", desc := "()V", sig := { parameters := [], returnType := none }, accessFlags := 2, code := none }
def k5m1 : Method := { name := "arraycopy", desc := "(Ljava/lang/Object;ILjava/lang/Object;II)V", sig := { parameters := [(.object "java/lang/Object"), .int, (.object "java/lang/Object"), .int, .int], returnType := none }, accessFlags := 265, code := none }
/-- java/lang/System -/
def k5 : Class := { plain "java/lang/System" (some 0) with
  accessFlags := 49
  interfaces := #[]
  cf := some (fileOf pool5 8 #[.nestMembers #[319, 327, 801, 108, 663, 208]] #[{ accessFlags := 2, nameIndex := 5, descriptorIndex := 6, attributes := #[] }, { accessFlags := 265, nameIndex := 727, descriptorIndex := 728, attributes := #[] }] 49 2 #[] #[{ accessFlags := 25, nameIndex := 507, descriptorIndex := 526, attributes := #[] }, { accessFlags := 25, nameIndex := 399, descriptorIndex := 155, attributes := #[] }, { accessFlags := 25, nameIndex := 396, descriptorIndex := 155, attributes := #[] }, { accessFlags := 10, nameIndex := 525, descriptorIndex := 526, attributes := #[] }, { accessFlags := 26, nameIndex := 674, descriptorIndex := 12, attributes := #[] }, { accessFlags := 26, nameIndex := 677, descriptorIndex := 12, attributes := #[] }, { accessFlags := 10, nameIndex := 11, descriptorIndex := 12, attributes := #[] }, { accessFlags := 74, nameIndex := 175, descriptorIndex := 176, attributes := #[] }, { accessFlags := 10, nameIndex := 491, descriptorIndex := 222, attributes := #[] }, { accessFlags := 74, nameIndex := 29, descriptorIndex := 30, attributes := #[] }, { accessFlags := 74, nameIndex := 154, descriptorIndex := 155, attributes := #[] }, { accessFlags := 10, nameIndex := 217, descriptorIndex := 218, attributes := #[] }, { accessFlags := 10, nameIndex := 221, descriptorIndex := 222, attributes := #[] }, { accessFlags := 8, nameIndex := 562, descriptorIndex := 563, attributes := #[] }])
  fields := #[{ name := "in", type := (.object "java/io/InputStream"), accessFlags := 25, slot := 0, constantValue := 0 }, { name := "out", type := (.object "java/io/PrintStream"), accessFlags := 25, slot := 1, constantValue := 0 }, { name := "err", type := (.object "java/io/PrintStream"), accessFlags := 25, slot := 2, constantValue := 0 }, { name := "initialIn", type := (.object "java/io/InputStream"), accessFlags := 10, slot := 3, constantValue := 0 }, { name := "NEVER", type := .int, accessFlags := 26, slot := 4, constantValue := 0 }, { name := "MAYBE", type := .int, accessFlags := 26, slot := 5, constantValue := 0 }, { name := "allowSecurityManager", type := .int, accessFlags := 10, slot := 6, constantValue := 0 }, { name := "security", type := (.object "java/lang/SecurityManager"), accessFlags := 74, slot := 7, constantValue := 0 }, { name := "notSupportedJnuEncoding", type := (.object "java/lang/String"), accessFlags := 10, slot := 8, constantValue := 0 }, { name := "cons", type := (.object "java/io/Console"), accessFlags := 74, slot := 9, constantValue := 0 }, { name := "initialErrStream", type := (.object "java/io/PrintStream"), accessFlags := 74, slot := 10, constantValue := 0 }, { name := "props", type := (.object "java/util/Properties"), accessFlags := 10, slot := 11, constantValue := 0 }, { name := "lineSeparator", type := (.object "java/lang/String"), accessFlags := 10, slot := 12, constantValue := 0 }, { name := "bootLayer", type := (.object "java/lang/ModuleLayer"), accessFlags := 8, slot := 13, constantValue := 0 }]
  methods := #[k5m0, k5m1]
  instanceTypes := #[]
  staticTypes := #[(.object "java/io/InputStream"), (.object "java/io/PrintStream"), (.object "java/io/PrintStream"), (.object "java/io/InputStream"), .int, .int, .int, (.object "java/lang/SecurityManager"), (.object "java/lang/String"), (.object "java/io/Console"), (.object "java/io/PrintStream"), (.object "java/util/Properties"), (.object "java/lang/String"), (.object "java/lang/ModuleLayer")]
  resolved := Array.replicate 834 none
  statics := none }

def pool6 : Array CpInfo := pool [(1, u "java/lang/Cloneable"), (0, .class_ 1), (0, u "java/lang/Object"), (0, .class_ 3)] 3

/-- java/lang/Cloneable -/
def k6 : Class := { plain "java/lang/Cloneable" (some 0) with
  accessFlags := 1537
  interfaces := #[]
  cf := some (fileOf pool6 2 #[] #[] 1537 4 #[] #[])
  fields := #[]
  methods := #[]
  instanceTypes := #[]
  staticTypes := #[]
  resolved := Array.replicate 8 none
  statics := none }

def pool7 : Array CpInfo := pool [(1, u "java/io/Serializable"), (0, .class_ 1), (0, u "java/lang/Object"), (0, .class_ 3)] 3

/-- java/io/Serializable -/
def k7 : Class := { plain "java/io/Serializable" (some 0) with
  accessFlags := 1537
  interfaces := #[]
  cf := some (fileOf pool7 2 #[] #[] 1537 4 #[] #[])
  fields := #[]
  methods := #[]
  instanceTypes := #[]
  staticTypes := #[]
  resolved := Array.replicate 8 none
  statics := none }

/-- the primitive byte -/
def k8 : Class := { plain "byte" none with kind := .primitive 'B', accessFlags := 0x411 }
/-- [B -/
def k9 : Class := { plain "[B" (some 0) with kind := .array 8 .byte, interfaces := #[6, 7], accessFlags := 1041 }

/-- the primitive int -/
def k10 : Class := { plain "int" none with kind := .primitive 'I', accessFlags := 0x411 }
/-- [I -/
def k11 : Class := { plain "[I" (some 0) with kind := .array 10 .int, interfaces := #[6, 7], accessFlags := 1041 }

/-- the primitive long -/
def k12 : Class := { plain "long" none with kind := .primitive 'J', accessFlags := 0x411 }
/-- [J -/
def k13 : Class := { plain "[J" (some 0) with kind := .array 12 .long, interfaces := #[6, 7], accessFlags := 1041 }

def heap : Heap := #[]
def classes : Array Class := #[k0, k1, k2, k3, k4, k5, k6, k7, k8, k9, k10, k11, k12, k13]
def interned : List (Array UInt16 × Addr) := []
def slotsUsed : Nat := 0
def theMethod : MethodId := ⟨1, 1⟩
def args0 : Array Value := #[.long 5, .long 6, .long 7, .int 1]
def aboutOver (below : List Frame) : State where
  vm := { classes := classes, interned := interned.toArray }
  heap := heap
  slotsUsed := slotsUsed
  threads := #[{ frames := .invoking theMethod args0 :: below }]
def below0 : List Frame := [.native { method := ⟨0, 0⟩, args := #[] }]
def about1 : State := aboutOver below0
def p0 : Program := .bare "" "" ""
def e0 : Env := launch0.env 0 0 0
theorem w_frames : about1.frames = Frame.invoking theMethod args0 :: below0 := rfl
set_option maxRecDepth 65536 in
theorem w_args : argsFit about1.vm theMethod args0 = true := by decide +kernel
set_option maxRecDepth 65536 in
theorem w_heap : heapFits about1 = true := by decide +kernel
set_option maxRecDepth 65536 in
theorem w_runnable : about1.curStatus? = some .runnable := by decide +kernel
set_option maxRecDepth 65536 in
theorem w_alone : about1.alone = true := by decide +kernel
set_option maxRecDepth 65536 in
theorem w_named : about1.methodNamed? x = some theMethod := by decide +kernel
set_option maxRecDepth 65536 in
theorem w_hears : about1.hears theMethod below0 = true := by decide +kernel
set_option maxRecDepth 65536 in
theorem w_ripe : about1.ripe theMethod args0 below0 = true := by decide +kernel
theorem w_running : about1.status = .running := rfl
set_option maxRecDepth 65536 in
theorem w_room : about1.hasRoom e0.platform room_1 = true :=
  launch0.hasRoom_least _ room_1 (by decide +kernel) (by decide +kernel) (by decide +kernel) (by decide +kernel) (by decide +kernel) (by decide +kernel)
theorem allAtoms_all (ts : List Jvm.Cond) (a : Array Jvm.Value) (st : Jvm.State) : (allAtoms ts).before a st = ts.all (fun c => c.before a st) := by
  induction ts with
  | nil => rfl
  | cons c t ih =>
    show (Jvm.Cond.and c (allAtoms t)).before a st = _
    rw [Jvm.Cond.before_and, ih, List.all_cons]
def words1 : List Jvm.Cond := Jvm.Cond.code x code maxLocals ret :: tables_1
/-- a 'code' word, met by the world's own term for the bytes: nothing is compared byte by byte -/
theorem code_word {y : MethodName} {bytes : ByteArray} {mx : Nat} {rt : Option FieldType} {a : Array Value} {s : State} {m : MethodId} {meth : Method} {c : Code} (h1 : s.methodNamed? y = some m) (h2 : s.vm.method? m = some meth) (h3 : meth.code = some c) (h4 : c.code = bytes)
    (h5 : (c.maxLocals == mx && c.exceptionTable.isEmpty && decide (c.maxStack ≤ mostOperands) && decide (meth.sig.returnType = rt) && !meth.locks && decide (parseMethodDescriptor y.desc = some meth.sig)) = true) : (Jvm.Cond.code y bytes mx rt).before a s = true := by
  simp only [Bool.and_eq_true, beq_iff_eq, Bool.not_eq_true', decide_eq_true_eq] at h5
  obtain ⟨⟨⟨⟨⟨g1, g2⟩, g3⟩, g4⟩, g5⟩, g6⟩ := h5
  simp [Cond.before, Cond.holds, Cond.value, h1, h2, h3, h4, g1, g2, g3, g4, g5, g6]
def isCode : Jvm.Cond → Bool
  | .code _ _ _ _ => true
  | _ => false
theorem all_split {L : List Jvm.Cond} {P : Jvm.Cond → Bool} (h1 : L.all (fun c => isCode c || P c) = true) (h2 : ∀ c ∈ L.filter isCode, P c = true) : L.all P = true := by
  refine List.all_eq_true.mpr fun c hc => ?_
  have h := List.all_eq_true.mp h1 c hc
  rcases Bool.eq_false_or_eq_true (isCode c) with hi | hi
  · exact h2 c (List.mem_filter.mpr ⟨hc, hi⟩)
  · simpa [hi] using h
set_option maxRecDepth 65536 in
theorem w_c0 : (Jvm.Cond.code x code maxLocals ret).before args0 about1 = true := code_word (m := ⟨1, 1⟩) (meth := k1m1) (c := k1c1) (by decide +kernel) rfl rfl rfl (by decide +kernel)
set_option maxRecDepth 65536 in
theorem w_c1 : (Jvm.Cond.code ({ cls := "java/lang/Math", name := "max", desc := "(JJ)J" } : Jvm.MethodName) jdk_29_method_66_code (4 : Nat) (Option.some Jvm.ClassFile.FieldType.long)).before args0 about1 = true := code_word (m := ⟨2, 1⟩) (meth := k2m1) (c := k2c1) (by decide +kernel) rfl rfl rfl (by decide +kernel)
set_option maxRecDepth 65536 in
theorem w_c2 : (Jvm.Cond.code ({ cls := "com/example/graph_of_conflicts/graphofconflicts/engine/OpenSnapshots", name := "<init>", desc := "()V" } : Jvm.MethodName) prog_55_method_1_code (1 : Nat) (Option.none : Option Jvm.ClassFile.FieldType)).before args0 about1 = true := code_word (m := ⟨3, 0⟩) (meth := k3m0) (c := k3c0) (by decide +kernel) rfl rfl rfl (by decide +kernel)
set_option maxRecDepth 65536 in
theorem w_c3 : (Jvm.Cond.code ({ cls := "java/lang/Object", name := "<init>", desc := "()V" } : Jvm.MethodName) object_method_1_code (1 : Nat) (Option.none : Option Jvm.ClassFile.FieldType)).before args0 about1 = true := code_word (m := ⟨0, 0⟩) (meth := k0m0) (c := k0c0) (by decide +kernel) rfl rfl rfl (by decide +kernel)
set_option maxRecDepth 65536 in
theorem w_c4 : (Jvm.Cond.code ({ cls := "com/example/graph_of_conflicts/graphofconflicts/engine/OpenSnapshots", name := "add", desc := "(J)V" } : Jvm.MethodName) prog_55_method_2_code (5 : Nat) (Option.none : Option Jvm.ClassFile.FieldType)).before args0 about1 = true := code_word (m := ⟨3, 1⟩) (meth := k3m1) (c := k3c1) (by decide +kernel) rfl rfl rfl (by decide +kernel)
set_option maxRecDepth 65536 in
theorem w_c5 : (Jvm.Cond.code ({ cls := "com/example/graph_of_conflicts/graphofconflicts/engine/OpenSnapshots", name := "indexOf", desc := "(J)I" } : Jvm.MethodName) prog_55_method_6_code (3 : Nat) (Option.some Jvm.ClassFile.FieldType.int)).before args0 about1 = true := code_word (m := ⟨3, 4⟩) (meth := k3m4) (c := k3c4) (by decide +kernel) rfl rfl rfl (by decide +kernel)
set_option maxRecDepth 65536 in
theorem w_c6 : (Jvm.Cond.code ({ cls := "java/util/Arrays", name := "binarySearch", desc := "([JIIJ)I" } : Jvm.MethodName) jdk_65_method_55_code (5 : Nat) (Option.some Jvm.ClassFile.FieldType.int)).before args0 about1 = true := code_word (m := ⟨4, 2⟩) (meth := k4m2) (c := k4c2) (by decide +kernel) rfl rfl rfl (by decide +kernel)
set_option maxRecDepth 65536 in
theorem w_c7 : (Jvm.Cond.code ({ cls := "java/util/Arrays", name := "rangeCheck", desc := "(III)V" } : Jvm.MethodName) jdk_65_method_30_code (3 : Nat) (Option.none : Option Jvm.ClassFile.FieldType)).before args0 about1 = true := code_word (m := ⟨4, 1⟩) (meth := k4m1) (c := k4c1) (by decide +kernel) rfl rfl rfl (by decide +kernel)
set_option maxRecDepth 65536 in
theorem w_c8 : (Jvm.Cond.code ({ cls := "java/util/Arrays", name := "binarySearch0", desc := "([JIIJ)I" } : Jvm.MethodName) jdk_65_method_56_code (10 : Nat) (Option.some Jvm.ClassFile.FieldType.int)).before args0 about1 = true := code_word (m := ⟨4, 3⟩) (meth := k4m3) (c := k4c3) (by decide +kernel) rfl rfl rfl (by decide +kernel)
set_option maxRecDepth 65536 in
theorem w_c9 : (Jvm.Cond.code ({ cls := "com/example/graph_of_conflicts/graphofconflicts/engine/OpenSnapshots", name := "earliestBefore", desc := "(J)J" } : Jvm.MethodName) prog_55_method_5_code (3 : Nat) (Option.some Jvm.ClassFile.FieldType.long)).before args0 about1 = true := code_word (m := ⟨3, 3⟩) (meth := k3m3) (c := k3c3) (by decide +kernel) rfl rfl rfl (by decide +kernel)
set_option maxRecDepth 65536 in
theorem w_c10 : (Jvm.Cond.code ({ cls := "com/example/graph_of_conflicts/graphofconflicts/engine/OpenSnapshots", name := "remove", desc := "(J)Z" } : Jvm.MethodName) prog_55_method_3_code (4 : Nat) (Option.some Jvm.ClassFile.FieldType.boolean)).before args0 about1 = true := code_word (m := ⟨3, 2⟩) (meth := k3m2) (c := k3c2) (by decide +kernel) rfl rfl rfl (by decide +kernel)
def codes1 : List Jvm.Cond := [Jvm.Cond.code x code maxLocals ret, Jvm.Cond.code ({ cls := "java/lang/Math", name := "max", desc := "(JJ)J" } : Jvm.MethodName) jdk_29_method_66_code (4 : Nat) (Option.some Jvm.ClassFile.FieldType.long), Jvm.Cond.code ({ cls := "com/example/graph_of_conflicts/graphofconflicts/engine/OpenSnapshots", name := "<init>", desc := "()V" } : Jvm.MethodName) prog_55_method_1_code (1 : Nat) (Option.none : Option Jvm.ClassFile.FieldType), Jvm.Cond.code ({ cls := "java/lang/Object", name := "<init>", desc := "()V" } : Jvm.MethodName) object_method_1_code (1 : Nat) (Option.none : Option Jvm.ClassFile.FieldType), Jvm.Cond.code ({ cls := "com/example/graph_of_conflicts/graphofconflicts/engine/OpenSnapshots", name := "add", desc := "(J)V" } : Jvm.MethodName) prog_55_method_2_code (5 : Nat) (Option.none : Option Jvm.ClassFile.FieldType), Jvm.Cond.code ({ cls := "com/example/graph_of_conflicts/graphofconflicts/engine/OpenSnapshots", name := "indexOf", desc := "(J)I" } : Jvm.MethodName) prog_55_method_6_code (3 : Nat) (Option.some Jvm.ClassFile.FieldType.int), Jvm.Cond.code ({ cls := "java/util/Arrays", name := "binarySearch", desc := "([JIIJ)I" } : Jvm.MethodName) jdk_65_method_55_code (5 : Nat) (Option.some Jvm.ClassFile.FieldType.int), Jvm.Cond.code ({ cls := "java/util/Arrays", name := "rangeCheck", desc := "(III)V" } : Jvm.MethodName) jdk_65_method_30_code (3 : Nat) (Option.none : Option Jvm.ClassFile.FieldType), Jvm.Cond.code ({ cls := "java/util/Arrays", name := "binarySearch0", desc := "([JIIJ)I" } : Jvm.MethodName) jdk_65_method_56_code (10 : Nat) (Option.some Jvm.ClassFile.FieldType.int), Jvm.Cond.code ({ cls := "com/example/graph_of_conflicts/graphofconflicts/engine/OpenSnapshots", name := "earliestBefore", desc := "(J)J" } : Jvm.MethodName) prog_55_method_5_code (3 : Nat) (Option.some Jvm.ClassFile.FieldType.long), Jvm.Cond.code ({ cls := "com/example/graph_of_conflicts/graphofconflicts/engine/OpenSnapshots", name := "remove", desc := "(J)Z" } : Jvm.MethodName) prog_55_method_3_code (4 : Nat) (Option.some Jvm.ClassFile.FieldType.boolean)]
set_option maxRecDepth 65536 in
theorem codes_eq : words1.filter isCode = codes1 := rfl
theorem w_codes : ∀ c ∈ words1.filter isCode, c.before args0 about1 = true := by
  rw [codes_eq]
  intro c hc
  simp only [codes1, List.mem_cons, List.not_mem_nil, or_false] at hc
  rcases hc with rfl | rfl | rfl | rfl | rfl | rfl | rfl | rfl | rfl | rfl | rfl
  · exact w_c0
  · exact w_c1
  · exact w_c2
  · exact w_c3
  · exact w_c4
  · exact w_c5
  · exact w_c6
  · exact w_c7
  · exact w_c8
  · exact w_c9
  · exact w_c10
set_option maxRecDepth 65536 in
theorem w_t1 : (words1.take 24).all (fun c => isCode c || c.before args0 about1) = true := by decide +kernel
set_option maxRecDepth 65536 in
theorem w_t2 : ((words1.drop 24).take 24).all (fun c => isCode c || c.before args0 about1) = true := by decide +kernel
set_option maxRecDepth 65536 in
theorem w_t3 : ((words1.drop 24).drop 24).all (fun c => isCode c || c.before args0 about1) = true := by decide +kernel
theorem w_tables : (allAtoms (Jvm.Cond.code x code maxLocals ret :: tables_1)).before args0 about1 = true := by
  rw [allAtoms_all]
  show words1.all (fun c => c.before args0 about1) = true
  refine all_split ?_ w_codes
  rw [← List.take_append_drop 24 words1, List.all_append, w_t1, ← List.take_append_drop 24 (words1.drop 24), List.all_append, w_t2, w_t3]
  rfl
set_option maxRecDepth 65536 in
theorem w_case : (Jvm.Cond.and given_1 narrow_1).before args0 about1 = true := by decide +kernel
theorem w_applies : (headSpec (Jvm.Cond.code x code maxLocals ret :: tables_1) room_1).applies x e0.platform about1 = true :=
  (Spec.applies_iff w_frames).mpr ⟨w_running, w_runnable, w_alone, w_named, w_hears, w_ripe, w_room, w_tables⟩
theorem atStart : AtStart classFile x code maxLocals ret World_1 tables_1 room_1 Calls_1 rest_1 Pre_1 launch0 p0 e0 about1 theMethod args0 below0 :=
  ⟨lists_1, trivial, launch0.admits_env _ _ _, launch0.least_env, fairChoices_fair.cas, fairChoices_fair.clock, w_frames, w_args, w_heap, w_applies, trivial, trivial, w_case⟩
end start1
theorem witness_1 : WitnessClaimed_1 := ⟨start1.p0, start1.e0, start1.about1, start1.theMethod, start1.args0, start1.below0, start1.atStart⟩
end Jvm.Pilot.@@N@@
