import JvmDerived
import JvmDerived.Pilot.@@N@@Statement
import JvmDerived.Pilot.@@N@@Code
set_option linter.unusedVariables false
set_option linter.unusedSimpArgs false
namespace Jvm.RoadKit
open Sem ClassFile Op Lib Jvm.Stand Jvm.Free Jvm.LawKit
section OwnFlow
variable {p : Program} {l : Launch} {e : Env} {R : Room} {s : State} {m : MethodId} {args : Array Value} {below : List Frame} {meth : Method} {c : Code} {T : State} {locs : List Loc} {cells slots : Nat} {P : State → Outcome → Prop} {Q : Option Value → Heap → List Loc → Prop} {C S : Nat}
/-- from t the run comes to an end at which P holds -/
def OGo (p : Program) (e : Env) (below : List Frame) (P : State → Outcome → Prop) (t : State) : Prop := ∃ s₂ o, Steps p.tables e below t s₂ ∧ s₂.status = .running ∧ Ended s₂ below o ∧ P s₂ o
/-- it returned; Q of the value, the heap and the places written; the frame -/
def OPost (s : State) (Q : Option Value → Heap → List Loc → Prop) (C S : Nat) (s₂ : State) (o : Outcome) : Prop := ∃ v L, o = .returned v ∧ Q v s₂.heap L ∧ FrameEnd s o s₂ L C S
theorem OGo.step {t t' : State} (h : ∀ u, Steps p.tables e below t' u → Steps p.tables e below t u) (g : OGo p e below P t') : OGo p e below P t := by
  obtain ⟨s2, o, h1, h2⟩ := g
  exact ⟨s2, o, h _ h1, h2⟩
theorem OGo.steps {t t' : State} (h : Steps p.tables e below t t') (g : OGo p e below P t') : OGo p e below P t := OGo.step (fun _ k => h.trans k) g
theorem OGo.retI (X : Stand p l e R s m args below meth c T locs cells slots) (hx : p.tables.exec = Jvm.exec) (hk : meth.locks = false) {pc : Nat} {Ls : Array Slot} {z : Int32} {rest : List Value} (hret : meth.sig.returnType = some .int) (hd : decode c.code pc = .ok (.ireturn, 1))
    (hc : cells ≤ C) (hs : slots ≤ S) (q : Q (some (.int z)) T.heap locs) : OGo p e below (OPost s Q C S) (T.setTop (mkF m pc Ls (.int z :: rest))) := by
  obtain ⟨fs, hr, hrun, hended, hW, hsame⟩ := X.leave (v := some (.int z)) (fun h => by rw [hret] at h; cases h) hk
  exact ⟨_, _, retOut X hx hret rfl (Or.inl ⟨rfl, Or.inl rfl, _, rfl⟩) hd hr, hrun, hended, _, _, rfl, q, ⟨_, rfl⟩, hW, hsame.mono hc hs⟩
theorem OGo.retN (X : Stand p l e R s m args below meth c T locs cells slots) (hx : p.tables.exec = Jvm.exec) (hk : meth.locks = false) {pc : Nat} {Ls : Array Slot} {z : Int32} {t : FieldType} {rest : List Value} (hret : meth.sig.returnType = some t) (ht : t = .boolean ∨ t = .byte ∨ t = .char ∨ t = .short) (hd : decode c.code pc = .ok (.ireturn, 1))
    (hc : cells ≤ C) (hs : slots ≤ S) (q : Q (some (.int (nar t z))) T.heap locs) : OGo p e below (OPost s Q C S) (T.setTop (mkF m pc Ls (.int z :: rest))) := by
  obtain ⟨fs, hr, hrun, hended, hW, hsame⟩ := X.leave (v := some (.int (nar t z))) (fun h => by rw [hret] at h; cases h) hk
  exact ⟨_, _, Jvm.RoadKit.retN X hx hret ht hd hr, hrun, hended, _, _, rfl, q, ⟨_, rfl⟩, hW, hsame.mono hc hs⟩
theorem OGo.retJ (X : Stand p l e R s m args below meth c T locs cells slots) (hx : p.tables.exec = Jvm.exec) (hk : meth.locks = false) {pc : Nat} {Ls : Array Slot} {z : Int64} {rest : List Value} (hret : meth.sig.returnType = some .long) (hd : decode c.code pc = .ok (.lreturn, 1))
    (hc : cells ≤ C) (hs : slots ≤ S) (q : Q (some (.long z)) T.heap locs) : OGo p e below (OPost s Q C S) (T.setTop (mkF m pc Ls (.long z :: rest))) := by
  obtain ⟨fs, hr, hrun, hended, hW, hsame⟩ := X.leave (v := some (.long z)) (fun h => by rw [hret] at h; cases h) hk
  exact ⟨_, _, retOut X hx hret rfl (Or.inr (Or.inl ⟨rfl, rfl, _, rfl⟩)) hd hr, hrun, hended, _, _, rfl, q, ⟨_, rfl⟩, hW, hsame.mono hc hs⟩
theorem OGo.retR (X : Stand p l e R s m args below meth c T locs cells slots) (hx : p.tables.exec = Jvm.exec) (hk : meth.locks = false) {pc : Nat} {Ls : Array Slot} {w : Value} {t : FieldType} {rest : List Value} (hret : meth.sig.returnType = some t) (ht : t.isReference = true) (hw : w.isRef = true) (hd : decode c.code pc = .ok (.areturn, 1))
    (hc : cells ≤ C) (hs : slots ≤ S) (q : Q (some w) T.heap locs) : OGo p e below (OPost s Q C S) (T.setTop (mkF m pc Ls (w :: rest))) := by
  obtain ⟨fs, hr, hrun, hended, hW, hsame⟩ := X.leave (v := some w) (fun h => by rw [hret] at h; cases h) hk
  have hn : narrow t w = w := by rcases ref_cases hw with rfl | ⟨a, rfl⟩ <;> cases t <;> first | rfl | (simp [FieldType.isReference] at ht)
  exact ⟨_, _, retOut X hx hret hn (Or.inr (Or.inr (Or.inr (Or.inr ⟨rfl, ht, hw⟩)))) hd hr, hrun, hended, _, _, rfl, q, ⟨_, rfl⟩, hW, hsame.mono hc hs⟩
theorem OGo.retV (X : Stand p l e R s m args below meth c T locs cells slots) (hx : p.tables.exec = Jvm.exec) (hk : meth.locks = false) {pc : Nat} {Ls : Array Slot} (hret : meth.sig.returnType = none) (hd : decode c.code pc = .ok (.return_, 1))
    (hc : cells ≤ C) (hs : slots ≤ S) (q : Q none T.heap locs) : OGo p e below (OPost s Q C S) (T.setTop (mkF m pc Ls [])) := by
  obtain ⟨fs, hr, hrun, hended, hW, hsame⟩ := X.leave (v := none) (fun _ => rfl) hk
  exact ⟨_, _, X.returnOut hx hret hd hr, hrun, hended, _, _, rfl, q, ⟨_, rfl⟩, hW, hsame.mono hc hs⟩
end OwnFlow
end Jvm.RoadKit
namespace Jvm.Pilot.@@N@@
open Jvm Jvm.ClassFile Sem Op Lib Jvm.Free Jvm.Stand Jvm.LawKit Jvm.RoadKit Bundle Jvm.Pilot.@@N@@.Jvm.D
theorem own_eqI {a b : Term} {args : Array Value} {first s : State} {o : Option Outcome} {idx : List Nat} {k : Int32} (h : (Cond.eq a b).value args first o s idx = some true) (hb : b.eval args first o idx s = some (.int k)) : a.eval args first o idx s = some (.int k) := by
  cases ha : a.eval args first o idx s with
  | none => simp [Cond.value, ha] at h
  | some y => cases y <;> simp [Cond.value, ha, hb] at h <;> rw [h]
theorem own_eqR {a b : Term} {args : Array Value} {first s : State} {o : Option Outcome} {idx : List Nat} {k : Addr} (h : (Cond.eq a b).value args first o s idx = some true) (hb : b.eval args first o idx s = some (.ref k)) : a.eval args first o idx s = some (.ref k) := by
  cases ha : a.eval args first o idx s with
  | none => simp [Cond.value, ha] at h
  | some y => cases y <;> simp [Cond.value, ha, hb] at h <;> rw [h]
def En (Z : State) (h : Heap) (nm : String) (cd : Int32) (a : Addr) : Prop := Sta Z h "com/example/coxswain/coxswain/api/ApiStatus" nm "Lcom/example/coxswain/coxswain/api/ApiStatus;" (.ref a) ∧ Exa Z h a "com/example/coxswain/coxswain/api/ApiStatus" ∧ Fld Z h a "com/example/coxswain/coxswain/api/ApiStatus" "code" "I" (.int cd)
theorem own_mono (a b lo hi : Int32) (h1 : lo = (if b < a then b else a)) (h2 : hi = (if a < b then b else a)) (h : ¬ ((nar .boolean (if lo < (500 : Int32) then (0 : Int32) else (1 : Int32))) = (0 : Int32))) : ¬ ((nar .boolean (if hi < (500 : Int32) then (0 : Int32) else (1 : Int32))) = (0 : Int32)) := by
  have q : ¬ lo < (500 : Int32) := fun z => h (by rw [if_pos z]; decide)
  have r : ¬ hi < (500 : Int32) := by
    rw [Int32.lt_iff_toInt_lt] at q ⊢
    by_cases c1 : b < a <;> by_cases c2 : a < b <;> simp only [c1, c2, if_true, if_false] at h1 h2 <;> subst h1 h2 <;> rw [Int32.lt_iff_toInt_lt] at c1 c2 <;> omega
  rw [if_neg r]; decide
theorem d1_0 : decode jdk_29_method_69_code 0 = .ok (.iload_n 0, 1) := by decide +kernel
theorem d1_1 : decode jdk_29_method_69_code 1 = .ok (.iload_n 1, 1) := by decide +kernel
theorem d1_2 : decode jdk_29_method_69_code 2 = .ok (.if_icmp .gt 7, 3) := by decide +kernel
theorem d1_5 : decode jdk_29_method_69_code 5 = .ok (.iload_n 0, 1) := by decide +kernel
theorem d1_6 : decode jdk_29_method_69_code 6 = .ok (.goto 4, 3) := by decide +kernel
theorem d1_9 : decode jdk_29_method_69_code 9 = .ok (.iload_n 1, 1) := by decide +kernel
theorem d1_10 : decode jdk_29_method_69_code 10 = .ok (.ireturn, 1) := by decide +kernel
theorem efmn (m : MethodId) (x0 : Int32) (x1 : Int32) : entryFrame m #[(.int x0), (.int x1)] 2 = mkF m 0 #[.val (.int x0), .val (.int x1)] [] := by first | (simp [entryFrame, mkF, argsToLocals, Value.category]; done) | rfl
def Qmn (Z : State) (p1 : Int32) (p2 : Int32) (h0 : Heap) (n0 : Nat) (v : Option Value) (h : Heap) (L : List Loc) : Prop := v = some (.int (if p2 < p1 then p2 else p1)) ∧ Fr n0 L ∧ h = h0
set_option maxRecDepth 65536 in
set_option maxHeartbeats 40000000 in
theorem rmmn (l : Launch) (Z : State) (a0 : Array Value) (hw : ∀ d ∈ tables_1, d.before a0 Z = true) (ws : List Jvm.Cond) (p1 : Int32) (p2 : Int32) (h0 : Heap) (n0 : Nat) (Z0 : n0 ≤ h0.size) :
    MetFree l (⟨"java/lang/Math", "min", "(II)I"⟩ : MethodName) (head1 (Jvm.Cond.code (⟨"java/lang/Math", "min", "(II)I"⟩ : MethodName) jdk_29_method_69_code 2 (some .int) :: ws) ({ frames := 0, cells := 0, slots := 0, locals := 0 } : Room)) (fun aQ UQ => aQ = #[(.int p1), (.int p2)] ∧ Z.Warmed39 UQ.vm ∧ UQ.heap = h0) (fun _ _ _ _ _ => True) (fun _ U o U' => ∃ v L, o = .returned v ∧ Qmn Z p1 p2 h0 n0 v U'.heap L ∧ FrameEnd U o U' L ({ frames := 0, cells := 0, slots := 0, locals := 0 } : Room).cells ({ frames := 0, cells := 0, slots := 0, locals := 0 } : Room).slots) := by
  refine MetFree.of_bodySF (Jvm.Free.JP.mathPlain rfl (by decide +kernel)) hisR ?_
  intro p e s m args below meth c s₁ Bd hml0 hP hK
  obtain ⟨rfl, hZ, hh⟩ := hP
  have hx := Bd.exec
  have hby := Bd.bytes
  have hml : c.maxLocals = 2 := hml0
  have hown : s.vm.findClass "java/lang/Math" = some m.cls := findClass_of_methodNamed Bd.named
  have hnm := (name_of_methodNamed Bd.named Bd.method).1
  have X0 : Stand p l e ({ frames := 0, cells := 0, slots := 0, locals := 0 } : Room) s m #[(.int p1), (.int p2)] below meth c s₁ [] 0 0 := Stand.of_body Bd
  have e0 : s₁.heap = h0 := by rw [← hh, Bd.state]; rfl
  have N0 := Fr.nil n0
  show OGo p e below (OPost s (Qmn Z p1 p2 h0 n0) ({ frames := 0, cells := 0, slots := 0, locals := 0 } : Room).cells ({ frames := 0, cells := 0, slots := 0, locals := 0 } : Room).slots) (s₁.setTop (entryFrame m #[(.int p1), (.int p2)] 2))
  refine OGo.step (fun uK kK => castTop (efmn m p1 p2) kK) ?_
  show OGo p e below _ (s₁.setTop (mkF m 0 #[.val (.int p1), .val (.int p2)] []))
  refine OGo.step (fun uK kK => XS.iloadN X0.here hx rfl (hb hby d1_0) rfl kK) ?_
  show OGo p e below _ (s₁.setTop (mkF m 1 #[.val (.int p1), .val (.int p2)] [(.int p1)]))
  refine OGo.step (fun uK kK => XS.iloadN X0.here hx rfl (hb hby d1_1) rfl kK) ?_
  show OGo p e below _ (s₁.setTop (mkF m 2 #[.val (.int p1), .val (.int p2)] [(.int p2), (.int p1)]))
  refine OGo.step (t' := s₁.setTop (mkF m 10 #[.val (.int p1), .val (.int p2)] [(.int (if p2 < p1 then p2 else p1))])) (fun uK kK => ?_) ?_
  · show Steps p.tables e below (s₁.setTop (mkF m 2 #[.val (.int p1), .val (.int p2)] [(.int p2), (.int p1)])) _
    by_cases hm2_1 : p2 < p1
    · try rw [if_pos hm2_1] at kK
      refine XS.icmpYes X0.here hx rfl (pc0 := 2) (pc' := 9) rfl (hb hby d1_2) rfl (tlt hm2_1).2.2.1 (by decide) (by decide) ?_
      refine XS.iloadN X0.here hx rfl (hb hby d1_9) rfl ?_
      show Steps p.tables e below (s₁.setTop (mkF m 10 #[.val (.int p1), .val (.int p2)] [(.int p2)])) _
      exact kK
    · try rw [if_neg hm2_1] at kK
      refine XS.icmpNo X0.here hx rfl (hb hby d1_2) rfl (flt hm2_1).2.2.1 ?_
      refine XS.iloadN X0.here hx rfl (hb hby d1_5) rfl ?_
      show Steps p.tables e below (s₁.setTop (mkF m 6 #[.val (.int p1), .val (.int p2)] [(.int p1)])) _
      refine XS.goto X0.here hx rfl (pc0 := 6) (pc' := 10) rfl (hb hby d1_6) (by decide) (by decide) ?_
      show Steps p.tables e below (s₁.setTop (mkF m 10 #[.val (.int p1), .val (.int p2)] [(.int p1)])) _
      exact kK
  show OGo p e below _ (s₁.setTop (mkF m 10 #[.val (.int p1), .val (.int p2)] [(.int (if p2 < p1 then p2 else p1))]))
  exact OGo.retI X0 hx Bd.notSynchronized Bd.returns (hb hby d1_10) (by decide) (by decide) (by show Qmn Z p1 p2 h0 n0 _ s₁.heap _; rw [e0]; exact ⟨rfl, N0, rfl⟩)
theorem d2_0 : decode jdk_29_method_65_code 0 = .ok (.iload_n 0, 1) := by decide +kernel
theorem d2_1 : decode jdk_29_method_65_code 1 = .ok (.iload_n 1, 1) := by decide +kernel
theorem d2_2 : decode jdk_29_method_65_code 2 = .ok (.if_icmp .lt 7, 3) := by decide +kernel
theorem d2_5 : decode jdk_29_method_65_code 5 = .ok (.iload_n 0, 1) := by decide +kernel
theorem d2_6 : decode jdk_29_method_65_code 6 = .ok (.goto 4, 3) := by decide +kernel
theorem d2_9 : decode jdk_29_method_65_code 9 = .ok (.iload_n 1, 1) := by decide +kernel
theorem d2_10 : decode jdk_29_method_65_code 10 = .ok (.ireturn, 1) := by decide +kernel
theorem efmx (m : MethodId) (x0 : Int32) (x1 : Int32) : entryFrame m #[(.int x0), (.int x1)] 2 = mkF m 0 #[.val (.int x0), .val (.int x1)] [] := by first | (simp [entryFrame, mkF, argsToLocals, Value.category]; done) | rfl
def Qmx (Z : State) (p1 : Int32) (p2 : Int32) (h0 : Heap) (n0 : Nat) (v : Option Value) (h : Heap) (L : List Loc) : Prop := v = some (.int (if p1 < p2 then p2 else p1)) ∧ Fr n0 L ∧ h = h0
set_option maxRecDepth 65536 in
set_option maxHeartbeats 40000000 in
theorem rmmx (l : Launch) (Z : State) (a0 : Array Value) (hw : ∀ d ∈ tables_1, d.before a0 Z = true) (ws : List Jvm.Cond) (p1 : Int32) (p2 : Int32) (h0 : Heap) (n0 : Nat) (Z0 : n0 ≤ h0.size) :
    MetFree l (⟨"java/lang/Math", "max", "(II)I"⟩ : MethodName) (head1 (Jvm.Cond.code (⟨"java/lang/Math", "max", "(II)I"⟩ : MethodName) jdk_29_method_65_code 2 (some .int) :: ws) ({ frames := 0, cells := 0, slots := 0, locals := 0 } : Room)) (fun aQ UQ => aQ = #[(.int p1), (.int p2)] ∧ Z.Warmed39 UQ.vm ∧ UQ.heap = h0) (fun _ _ _ _ _ => True) (fun _ U o U' => ∃ v L, o = .returned v ∧ Qmx Z p1 p2 h0 n0 v U'.heap L ∧ FrameEnd U o U' L ({ frames := 0, cells := 0, slots := 0, locals := 0 } : Room).cells ({ frames := 0, cells := 0, slots := 0, locals := 0 } : Room).slots) := by
  refine MetFree.of_bodySF (Jvm.Free.JP.mathPlain rfl (by decide +kernel)) hisR ?_
  intro p e s m args below meth c s₁ Bd hml0 hP hK
  obtain ⟨rfl, hZ, hh⟩ := hP
  have hx := Bd.exec
  have hby := Bd.bytes
  have hml : c.maxLocals = 2 := hml0
  have hown : s.vm.findClass "java/lang/Math" = some m.cls := findClass_of_methodNamed Bd.named
  have hnm := (name_of_methodNamed Bd.named Bd.method).1
  have X0 : Stand p l e ({ frames := 0, cells := 0, slots := 0, locals := 0 } : Room) s m #[(.int p1), (.int p2)] below meth c s₁ [] 0 0 := Stand.of_body Bd
  have e0 : s₁.heap = h0 := by rw [← hh, Bd.state]; rfl
  have N0 := Fr.nil n0
  show OGo p e below (OPost s (Qmx Z p1 p2 h0 n0) ({ frames := 0, cells := 0, slots := 0, locals := 0 } : Room).cells ({ frames := 0, cells := 0, slots := 0, locals := 0 } : Room).slots) (s₁.setTop (entryFrame m #[(.int p1), (.int p2)] 2))
  refine OGo.step (fun uK kK => castTop (efmx m p1 p2) kK) ?_
  show OGo p e below _ (s₁.setTop (mkF m 0 #[.val (.int p1), .val (.int p2)] []))
  refine OGo.step (fun uK kK => XS.iloadN X0.here hx rfl (hb hby d2_0) rfl kK) ?_
  show OGo p e below _ (s₁.setTop (mkF m 1 #[.val (.int p1), .val (.int p2)] [(.int p1)]))
  refine OGo.step (fun uK kK => XS.iloadN X0.here hx rfl (hb hby d2_1) rfl kK) ?_
  show OGo p e below _ (s₁.setTop (mkF m 2 #[.val (.int p1), .val (.int p2)] [(.int p2), (.int p1)]))
  refine OGo.step (t' := s₁.setTop (mkF m 10 #[.val (.int p1), .val (.int p2)] [(.int (if p1 < p2 then p2 else p1))])) (fun uK kK => ?_) ?_
  · show Steps p.tables e below (s₁.setTop (mkF m 2 #[.val (.int p1), .val (.int p2)] [(.int p2), (.int p1)])) _
    by_cases hm2_1 : p1 < p2
    · try rw [if_pos hm2_1] at kK
      refine XS.icmpYes X0.here hx rfl (pc0 := 2) (pc' := 9) rfl (hb hby d2_2) rfl (tlt hm2_1).1 (by decide) (by decide) ?_
      refine XS.iloadN X0.here hx rfl (hb hby d2_9) rfl ?_
      show Steps p.tables e below (s₁.setTop (mkF m 10 #[.val (.int p1), .val (.int p2)] [(.int p2)])) _
      exact kK
    · try rw [if_neg hm2_1] at kK
      refine XS.icmpNo X0.here hx rfl (hb hby d2_2) rfl (flt hm2_1).1 ?_
      refine XS.iloadN X0.here hx rfl (hb hby d2_5) rfl ?_
      show Steps p.tables e below (s₁.setTop (mkF m 6 #[.val (.int p1), .val (.int p2)] [(.int p1)])) _
      refine XS.goto X0.here hx rfl (pc0 := 6) (pc' := 10) rfl (hb hby d2_6) (by decide) (by decide) ?_
      show Steps p.tables e below (s₁.setTop (mkF m 10 #[.val (.int p1), .val (.int p2)] [(.int p1)])) _
      exact kK
  show OGo p e below _ (s₁.setTop (mkF m 10 #[.val (.int p1), .val (.int p2)] [(.int (if p1 < p2 then p2 else p1))]))
  exact OGo.retI X0 hx Bd.notSynchronized Bd.returns (hb hby d2_10) (by decide) (by decide) (by show Qmx Z p1 p2 h0 n0 _ s₁.heap _; rw [e0]; exact ⟨rfl, N0, rfl⟩)
theorem d3_0 : decode prog_3_method_5_code 0 = .ok (.iload_n 0, 1) := by decide +kernel
theorem d3_1 : decode prog_3_method_5_code 1 = .ok (.sipush 500, 3) := by decide +kernel
theorem d3_4 : decode prog_3_method_5_code 4 = .ok (.if_icmp .lt 7, 3) := by decide +kernel
theorem d3_7 : decode prog_3_method_5_code 7 = .ok (.iconst 1, 1) := by decide +kernel
theorem d3_8 : decode prog_3_method_5_code 8 = .ok (.goto 4, 3) := by decide +kernel
theorem d3_11 : decode prog_3_method_5_code 11 = .ok (.iconst 0, 1) := by decide +kernel
theorem d3_12 : decode prog_3_method_5_code 12 = .ok (.ireturn, 1) := by decide +kernel
theorem pnmy : plainName "com/example/coxswain/coxswain/api/ApiStatus" = true := by first | (simp [plainName, overriddenIn]; done) | decide +kernel
theorem efmy (m : MethodId) (x0 : Int32) : entryFrame m #[(.int x0)] 1 = mkF m 0 #[.val (.int x0)] [] := by first | (simp [entryFrame, mkF, argsToLocals, Value.category]; done) | rfl
def Qmy (Z : State) (p1 : Int32) (h0 : Heap) (n0 : Nat) (v : Option Value) (h : Heap) (L : List Loc) : Prop := v = some (.int (nar .boolean (if p1 < (500 : Int32) then (0 : Int32) else (1 : Int32)))) ∧ Fr n0 L ∧ h = h0
set_option maxRecDepth 65536 in
set_option maxHeartbeats 40000000 in
theorem rmmy (l : Launch) (Z : State) (a0 : Array Value) (hw : ∀ d ∈ tables_1, d.before a0 Z = true) (ws : List Jvm.Cond) (p1 : Int32) (h0 : Heap) (n0 : Nat) (Z0 : n0 ≤ h0.size) :
    MetFree l (⟨"com/example/coxswain/coxswain/api/ApiStatus", "mayHaveTakenEffect", "(I)Z"⟩ : MethodName) (head1 (Jvm.Cond.code (⟨"com/example/coxswain/coxswain/api/ApiStatus", "mayHaveTakenEffect", "(I)Z"⟩ : MethodName) prog_3_method_5_code 1 (some .boolean) :: ws) ({ frames := 0, cells := 0, slots := 0, locals := 0 } : Room)) (fun aQ UQ => aQ = #[(.int p1)] ∧ Z.Warmed39 UQ.vm ∧ UQ.heap = h0) (fun _ _ _ _ _ => True) (fun _ U o U' => ∃ v L, o = .returned v ∧ Qmy Z p1 h0 n0 v U'.heap L ∧ FrameEnd U o U' L ({ frames := 0, cells := 0, slots := 0, locals := 0 } : Room).cells ({ frames := 0, cells := 0, slots := 0, locals := 0 } : Room).slots) := by
  refine MetFree.of_bodySF (plainFor_of_name pnmy) hisR ?_
  intro p e s m args below meth c s₁ Bd hml0 hP hK
  obtain ⟨rfl, hZ, hh⟩ := hP
  have hx := Bd.exec
  have hby := Bd.bytes
  have hml : c.maxLocals = 1 := hml0
  have hown : s.vm.findClass "com/example/coxswain/coxswain/api/ApiStatus" = some m.cls := findClass_of_methodNamed Bd.named
  have hnm := (name_of_methodNamed Bd.named Bd.method).1
  have X0 : Stand p l e ({ frames := 0, cells := 0, slots := 0, locals := 0 } : Room) s m #[(.int p1)] below meth c s₁ [] 0 0 := Stand.of_body Bd
  have e0 : s₁.heap = h0 := by rw [← hh, Bd.state]; rfl
  have N0 := Fr.nil n0
  show OGo p e below (OPost s (Qmy Z p1 h0 n0) ({ frames := 0, cells := 0, slots := 0, locals := 0 } : Room).cells ({ frames := 0, cells := 0, slots := 0, locals := 0 } : Room).slots) (s₁.setTop (entryFrame m #[(.int p1)] 1))
  refine OGo.step (fun uK kK => castTop (efmy m p1) kK) ?_
  show OGo p e below _ (s₁.setTop (mkF m 0 #[.val (.int p1)] []))
  refine OGo.step (fun uK kK => XS.iloadN X0.here hx rfl (hb hby d3_0) rfl kK) ?_
  show OGo p e below _ (s₁.setTop (mkF m 1 #[.val (.int p1)] [(.int p1)]))
  refine OGo.step (fun uK kK => XS.sipush X0.here hx rfl (hb hby d3_1) kK) ?_
  show OGo p e below _ (s₁.setTop (mkF m 4 #[.val (.int p1)] [(.int (500 : Int32)), (.int p1)]))
  refine OGo.step (t' := s₁.setTop (mkF m 12 #[.val (.int p1)] [(.int (if p1 < (500 : Int32) then (0 : Int32) else (1 : Int32)))])) (fun uK kK => ?_) ?_
  · show Steps p.tables e below (s₁.setTop (mkF m 4 #[.val (.int p1)] [(.int (500 : Int32)), (.int p1)])) _
    by_cases hm4_1 : p1 < (500 : Int32)
    · try rw [if_pos hm4_1] at kK
      refine XS.icmpYes X0.here hx rfl (pc0 := 4) (pc' := 11) rfl (hb hby d3_4) rfl (tlt hm4_1).1 (by decide) (by decide) ?_
      refine XS.iconst X0.here hx rfl (hb hby d3_11) ?_
      show Steps p.tables e below (s₁.setTop (mkF m 12 #[.val (.int p1)] [(.int (0 : Int32))])) _
      exact kK
    · try rw [if_neg hm4_1] at kK
      refine XS.icmpNo X0.here hx rfl (hb hby d3_4) rfl (flt hm4_1).1 ?_
      refine XS.iconst X0.here hx rfl (hb hby d3_7) ?_
      show Steps p.tables e below (s₁.setTop (mkF m 8 #[.val (.int p1)] [(.int (1 : Int32))])) _
      refine XS.goto X0.here hx rfl (pc0 := 8) (pc' := 12) rfl (hb hby d3_8) (by decide) (by decide) ?_
      show Steps p.tables e below (s₁.setTop (mkF m 12 #[.val (.int p1)] [(.int (1 : Int32))])) _
      exact kK
  show OGo p e below _ (s₁.setTop (mkF m 12 #[.val (.int p1)] [(.int (if p1 < (500 : Int32) then (0 : Int32) else (1 : Int32)))]))
  exact OGo.retN X0 hx Bd.notSynchronized (t := .boolean) Bd.returns (by simp) (hb hby d3_12) (by decide) (by decide) (by show Qmy Z p1 h0 n0 _ s₁.heap _; rw [e0]; exact ⟨rfl, N0, rfl⟩)
theorem d4_0 : decode method_2_code 0 = .ok (.iload_n 0, 1) := by decide +kernel
theorem d4_1 : decode method_2_code 1 = .ok (.ldc 7, 2) := by decide +kernel
theorem d4_3 : decode method_2_code 3 = .ok (.iand, 1) := by decide +kernel
theorem d4_4 : decode method_2_code 4 = .ok (.bipush 11, 2) := by decide +kernel
theorem d4_6 : decode method_2_code 6 = .ok (.irem, 1) := by decide +kernel
theorem d4_7 : decode method_2_code 7 = .ok (.istore_n 1, 1) := by decide +kernel
theorem d4_8 : decode method_2_code 8 = .ok (.iload_n 1, 1) := by decide +kernel
theorem d4_9 : decode method_2_code 9 = .ok (.ifCond .ne 7, 3) := by decide +kernel
theorem d4_12 : decode method_2_code 12 = .ok (.getstatic 8, 3) := by decide +kernel
theorem d4_15 : decode method_2_code 15 = .ok (.areturn, 1) := by decide +kernel
theorem d4_16 : decode method_2_code 16 = .ok (.iload_n 1, 1) := by decide +kernel
theorem d4_17 : decode method_2_code 17 = .ok (.iconst 1, 1) := by decide +kernel
theorem d4_18 : decode method_2_code 18 = .ok (.if_icmp .ne 7, 3) := by decide +kernel
theorem d4_21 : decode method_2_code 21 = .ok (.getstatic 14, 3) := by decide +kernel
theorem d4_24 : decode method_2_code 24 = .ok (.areturn, 1) := by decide +kernel
theorem d4_25 : decode method_2_code 25 = .ok (.iload_n 1, 1) := by decide +kernel
theorem d4_26 : decode method_2_code 26 = .ok (.iconst 2, 1) := by decide +kernel
theorem d4_27 : decode method_2_code 27 = .ok (.if_icmp .ne 7, 3) := by decide +kernel
theorem d4_30 : decode method_2_code 30 = .ok (.getstatic 17, 3) := by decide +kernel
theorem d4_33 : decode method_2_code 33 = .ok (.areturn, 1) := by decide +kernel
theorem d4_34 : decode method_2_code 34 = .ok (.iload_n 1, 1) := by decide +kernel
theorem d4_35 : decode method_2_code 35 = .ok (.iconst 3, 1) := by decide +kernel
theorem d4_36 : decode method_2_code 36 = .ok (.if_icmp .ne 7, 3) := by decide +kernel
theorem d4_39 : decode method_2_code 39 = .ok (.getstatic 20, 3) := by decide +kernel
theorem d4_42 : decode method_2_code 42 = .ok (.areturn, 1) := by decide +kernel
theorem d4_43 : decode method_2_code 43 = .ok (.iload_n 1, 1) := by decide +kernel
theorem d4_44 : decode method_2_code 44 = .ok (.iconst 4, 1) := by decide +kernel
theorem d4_45 : decode method_2_code 45 = .ok (.if_icmp .ne 7, 3) := by decide +kernel
theorem d4_48 : decode method_2_code 48 = .ok (.getstatic 23, 3) := by decide +kernel
theorem d4_51 : decode method_2_code 51 = .ok (.areturn, 1) := by decide +kernel
theorem d4_52 : decode method_2_code 52 = .ok (.iload_n 1, 1) := by decide +kernel
theorem d4_53 : decode method_2_code 53 = .ok (.iconst 5, 1) := by decide +kernel
theorem d4_54 : decode method_2_code 54 = .ok (.if_icmp .ne 7, 3) := by decide +kernel
theorem d4_57 : decode method_2_code 57 = .ok (.getstatic 26, 3) := by decide +kernel
theorem d4_60 : decode method_2_code 60 = .ok (.areturn, 1) := by decide +kernel
theorem d4_61 : decode method_2_code 61 = .ok (.iload_n 1, 1) := by decide +kernel
theorem d4_62 : decode method_2_code 62 = .ok (.bipush 6, 2) := by decide +kernel
theorem d4_64 : decode method_2_code 64 = .ok (.if_icmp .ne 7, 3) := by decide +kernel
theorem d4_67 : decode method_2_code 67 = .ok (.getstatic 29, 3) := by decide +kernel
theorem d4_70 : decode method_2_code 70 = .ok (.areturn, 1) := by decide +kernel
theorem d4_71 : decode method_2_code 71 = .ok (.iload_n 1, 1) := by decide +kernel
theorem d4_72 : decode method_2_code 72 = .ok (.bipush 7, 2) := by decide +kernel
theorem d4_74 : decode method_2_code 74 = .ok (.if_icmp .ne 7, 3) := by decide +kernel
theorem d4_77 : decode method_2_code 77 = .ok (.getstatic 32, 3) := by decide +kernel
theorem d4_80 : decode method_2_code 80 = .ok (.areturn, 1) := by decide +kernel
theorem d4_81 : decode method_2_code 81 = .ok (.iload_n 1, 1) := by decide +kernel
theorem d4_82 : decode method_2_code 82 = .ok (.bipush 8, 2) := by decide +kernel
theorem d4_84 : decode method_2_code 84 = .ok (.if_icmp .ne 7, 3) := by decide +kernel
theorem d4_87 : decode method_2_code 87 = .ok (.getstatic 35, 3) := by decide +kernel
theorem d4_90 : decode method_2_code 90 = .ok (.areturn, 1) := by decide +kernel
theorem d4_91 : decode method_2_code 91 = .ok (.iload_n 1, 1) := by decide +kernel
theorem d4_92 : decode method_2_code 92 = .ok (.bipush 9, 2) := by decide +kernel
theorem d4_94 : decode method_2_code 94 = .ok (.if_icmp .ne 7, 3) := by decide +kernel
theorem d4_97 : decode method_2_code 97 = .ok (.getstatic 38, 3) := by decide +kernel
theorem d4_100 : decode method_2_code 100 = .ok (.areturn, 1) := by decide +kernel
theorem d4_101 : decode method_2_code 101 = .ok (.getstatic 41, 3) := by decide +kernel
theorem d4_104 : decode method_2_code 104 = .ok (.areturn, 1) := by decide +kernel
theorem pnpk : plainName "com/example/coxswain/coxswain/api/ApiStatusMayHaveTakenEffectPinLaw" = true := by first | (simp [plainName, overriddenIn]; done) | decide +kernel
theorem efpk (m : MethodId) (x0 : Int32) : entryFrame m #[(.int x0)] 2 = mkF m 0 #[.val (.int x0), .unset] [] := by first | (simp [entryFrame, mkF, argsToLocals, Value.category]; done) | rfl
def Qpk (Z : State) (p1 : Int32) (a_OK : Addr) (a_BAD_REQUEST : Addr) (a_UNAUTHORIZED : Addr) (a_FORBIDDEN : Addr) (a_NOT_FOUND : Addr) (a_METHOD_NOT_ALLOWED : Addr) (a_CONFLICT : Addr) (a_PAYLOAD_TOO_LARGE : Addr) (a_MISDIRECTED : Addr) (a_INTERNAL_ERROR : Addr) (a_UNAVAILABLE : Addr) (h0 : Heap) (n0 : Nat) (v : Option Value) (h : Heap) (L : List Loc) : Prop := ∃ (r : Addr) (cd : Int32), v = some (.ref r) ∧ Fr n0 L ∧ h = h0 ∧ Exa Z h0 r "com/example/coxswain/coxswain/api/ApiStatus" ∧ Fld Z h0 r "com/example/coxswain/coxswain/api/ApiStatus" "code" "I" (.int cd) ∧ ((r = a_INTERNAL_ERROR ∧ cd = (500 : Int32)) ∨ (r = a_UNAVAILABLE ∧ cd = (503 : Int32)) ∨ cd < (500 : Int32))
set_option maxRecDepth 65536 in
set_option maxHeartbeats 40000000 in
theorem rmpk (l : Launch) (Z : State) (a0 : Array Value) (hw : ∀ d ∈ tables_1, d.before a0 Z = true) (ws : List Jvm.Cond) (p1 : Int32) (a_OK : Addr) (a_BAD_REQUEST : Addr) (a_UNAUTHORIZED : Addr) (a_FORBIDDEN : Addr) (a_NOT_FOUND : Addr) (a_METHOD_NOT_ALLOWED : Addr) (a_CONFLICT : Addr) (a_PAYLOAD_TOO_LARGE : Addr) (a_MISDIRECTED : Addr) (a_INTERNAL_ERROR : Addr) (a_UNAVAILABLE : Addr) (h0 : Heap) (n0 : Nat) (Z0 : n0 ≤ h0.size) (H_OK : En Z h0 "OK" 200 a_OK) (H_BAD_REQUEST : En Z h0 "BAD_REQUEST" 400 a_BAD_REQUEST) (H_UNAUTHORIZED : En Z h0 "UNAUTHORIZED" 401 a_UNAUTHORIZED) (H_FORBIDDEN : En Z h0 "FORBIDDEN" 403 a_FORBIDDEN) (H_NOT_FOUND : En Z h0 "NOT_FOUND" 404 a_NOT_FOUND) (H_METHOD_NOT_ALLOWED : En Z h0 "METHOD_NOT_ALLOWED" 405 a_METHOD_NOT_ALLOWED) (H_CONFLICT : En Z h0 "CONFLICT" 409 a_CONFLICT) (H_PAYLOAD_TOO_LARGE : En Z h0 "PAYLOAD_TOO_LARGE" 413 a_PAYLOAD_TOO_LARGE) (H_MISDIRECTED : En Z h0 "MISDIRECTED" 421 a_MISDIRECTED) (H_INTERNAL_ERROR : En Z h0 "INTERNAL_ERROR" 500 a_INTERNAL_ERROR) (H_UNAVAILABLE : En Z h0 "UNAVAILABLE" 503 a_UNAVAILABLE) :
    MetFree l (⟨"com/example/coxswain/coxswain/api/ApiStatusMayHaveTakenEffectPinLaw", "pick", "(I)Lcom/example/coxswain/coxswain/api/ApiStatus;"⟩ : MethodName) (head1 (Jvm.Cond.code (⟨"com/example/coxswain/coxswain/api/ApiStatusMayHaveTakenEffectPinLaw", "pick", "(I)Lcom/example/coxswain/coxswain/api/ApiStatus;"⟩ : MethodName) method_2_code 2 (some (.object "com/example/coxswain/coxswain/api/ApiStatus")) :: ws) ({ frames := 0, cells := 0, slots := 0, locals := 0 } : Room)) (fun aQ UQ => aQ = #[(.int p1)] ∧ Z.Warmed39 UQ.vm ∧ UQ.heap = h0) (fun _ _ _ _ _ => True) (fun _ U o U' => ∃ v L, o = .returned v ∧ Qpk Z p1 a_OK a_BAD_REQUEST a_UNAUTHORIZED a_FORBIDDEN a_NOT_FOUND a_METHOD_NOT_ALLOWED a_CONFLICT a_PAYLOAD_TOO_LARGE a_MISDIRECTED a_INTERNAL_ERROR a_UNAVAILABLE h0 n0 v U'.heap L ∧ FrameEnd U o U' L ({ frames := 0, cells := 0, slots := 0, locals := 0 } : Room).cells ({ frames := 0, cells := 0, slots := 0, locals := 0 } : Room).slots) := by
  refine MetFree.of_bodySF (plainFor_of_name pnpk) hisR ?_
  intro p e s m args below meth c s₁ Bd hml0 hP hK
  obtain ⟨rfl, hZ, hh⟩ := hP
  have hx := Bd.exec
  have hby := Bd.bytes
  have hml : c.maxLocals = 2 := hml0
  have hown : s.vm.findClass "com/example/coxswain/coxswain/api/ApiStatusMayHaveTakenEffectPinLaw" = some m.cls := findClass_of_methodNamed Bd.named
  have hnm := (name_of_methodNamed Bd.named Bd.method).1
  have X0 : Stand p l e ({ frames := 0, cells := 0, slots := 0, locals := 0 } : Room) s m #[(.int p1)] below meth c s₁ [] 0 0 := Stand.of_body Bd
  have e0 : s₁.heap = h0 := by rw [← hh, Bd.state]; rfl
  have N0 := Fr.nil n0
  show OGo p e below (OPost s (Qpk Z p1 a_OK a_BAD_REQUEST a_UNAUTHORIZED a_FORBIDDEN a_NOT_FOUND a_METHOD_NOT_ALLOWED a_CONFLICT a_PAYLOAD_TOO_LARGE a_MISDIRECTED a_INTERNAL_ERROR a_UNAVAILABLE h0 n0) ({ frames := 0, cells := 0, slots := 0, locals := 0 } : Room).cells ({ frames := 0, cells := 0, slots := 0, locals := 0 } : Room).slots) (s₁.setTop (entryFrame m #[(.int p1)] 2))
  refine OGo.step (fun uK kK => castTop (efpk m p1) kK) ?_
  show OGo p e below _ (s₁.setTop (mkF m 0 #[.val (.int p1), .unset] []))
  refine OGo.step (fun uK kK => XS.iloadN X0.here hx rfl (hb hby d4_0) rfl kK) ?_
  show OGo p e below _ (s₁.setTop (mkF m 1 #[.val (.int p1), .unset] [(.int p1)]))
  refine OGo.step (fun uK kK => X0.ldcI hx hown (mvT hZ (hw _ (List.mem_of_getElem? (i := 15) rfl))) rfl (hb hby d4_1) kK) ?_
  show OGo p e below _ (s₁.setTop (mkF m 3 #[.val (.int p1), .unset] [(.int (2147483647 : Int32)), (.int p1)]))
  refine OGo.step (fun uK kK => XS.iand X0.here hx rfl (hb hby d4_3) rfl kK) ?_
  show OGo p e below _ (s₁.setTop (mkF m 4 #[.val (.int p1), .unset] [(.int (p1 &&& (2147483647 : Int32)))]))
  refine OGo.step (fun uK kK => XS.bipush X0.here hx rfl (hb hby d4_4) kK) ?_
  show OGo p e below _ (s₁.setTop (mkF m 6 #[.val (.int p1), .unset] [(.int (11 : Int32)), (.int (p1 &&& (2147483647 : Int32)))]))
  have hnz6 : (11 : Int32) ≠ 0 := by decide
  refine OGo.step (fun uK kK => iremM X0 hx rfl (hb hby d4_6) rfl hnz6 kK) ?_
  show OGo p e below _ (s₁.setTop (mkF m 7 #[.val (.int p1), .unset] [(.int ((p1 &&& (2147483647 : Int32)) % (11 : Int32)))]))
  obtain ⟨ii, ev_ii⟩ : ∃ z : Int32, z = ((p1 &&& (2147483647 : Int32)) % (11 : Int32)) := ⟨_, rfl⟩
  rw [← ev_ii]
  show OGo p e below _ (s₁.setTop (mkF m 7 #[.val (.int p1), .unset] [(.int ii)]))
  refine OGo.step (fun uK kK => XS.istoreN X0.here hx rfl (hb hby d4_7) rfl (l' := #[.val (.int p1), .val (.int ii)]) rfl kK) ?_
  show OGo p e below _ (s₁.setTop (mkF m 8 #[.val (.int p1), .val (.int ii)] []))
  refine OGo.step (fun uK kK => XS.iloadN X0.here hx rfl (hb hby d4_8) rfl kK) ?_
  show OGo p e below _ (s₁.setTop (mkF m 9 #[.val (.int p1), .val (.int ii)] [(.int ii)]))
  by_cases hc9 : ii = (0 : Int32)
  · skip
    refine OGo.step (fun uK kK => XS.ifNo X0.here hx rfl (hb hby d4_9) rfl ((if0 _ _).trans (teq hc9).2) kK) ?_
    show OGo p e below _ (s₁.setTop (mkF m 12 #[.val (.int p1), .val (.int ii)] []))
    obtain ⟨T1, X1, e1, st1⟩ := getS2 X0 hx hZ hown (host := "") (Or.inl (hw _ (List.mem_of_getElem? (i := 37) rfl))) Via.refl e0 H_OK.1 (g := (mkF m 12 #[.val (.int p1), .val (.int ii)] [])) rfl (hb hby d4_12)
    refine OGo.step (fun uK kK => st1 uK kK) ?_
    show OGo p e below _ (T1.setTop (mkF m 15 #[.val (.int p1), .val (.int ii)] [(.ref a_OK)]))
    exact OGo.retR X1 hx Bd.notSynchronized Bd.returns rfl rfl (hb hby d4_15) (by decide) (by decide) (by show Qpk Z p1 a_OK a_BAD_REQUEST a_UNAUTHORIZED a_FORBIDDEN a_NOT_FOUND a_METHOD_NOT_ALLOWED a_CONFLICT a_PAYLOAD_TOO_LARGE a_MISDIRECTED a_INTERNAL_ERROR a_UNAVAILABLE h0 n0 _ T1.heap _; rw [e1]; exact ⟨a_OK, 200, rfl, N0, rfl, H_OK.2.1, H_OK.2.2, Or.inr (Or.inr (by decide))⟩)
  · skip
    refine OGo.step (fun uK kK => XS.ifYes X0.here hx rfl (pc0 := 9) (pc' := 16) rfl (hb hby d4_9) rfl ((if0 _ _).trans (feq hc9).2) (by decide) (by decide) kK) ?_
    show OGo p e below _ (s₁.setTop (mkF m 16 #[.val (.int p1), .val (.int ii)] []))
    refine OGo.step (fun uK kK => XS.iloadN X0.here hx rfl (hb hby d4_16) rfl kK) ?_
    show OGo p e below _ (s₁.setTop (mkF m 17 #[.val (.int p1), .val (.int ii)] [(.int ii)]))
    refine OGo.step (fun uK kK => XS.iconst X0.here hx rfl (hb hby d4_17) kK) ?_
    show OGo p e below _ (s₁.setTop (mkF m 18 #[.val (.int p1), .val (.int ii)] [(.int (1 : Int32)), (.int ii)]))
    by_cases hc18 : ii = (1 : Int32)
    · skip
      refine OGo.step (fun uK kK => XS.icmpNo X0.here hx rfl (hb hby d4_18) rfl (teq hc18).2 kK) ?_
      show OGo p e below _ (s₁.setTop (mkF m 21 #[.val (.int p1), .val (.int ii)] []))
      obtain ⟨T2, X2, e2, st2⟩ := getS2 X0 hx hZ hown (host := "") (Or.inl (hw _ (List.mem_of_getElem? (i := 41) rfl))) Via.refl e0 H_BAD_REQUEST.1 (g := (mkF m 21 #[.val (.int p1), .val (.int ii)] [])) rfl (hb hby d4_21)
      refine OGo.step (fun uK kK => st2 uK kK) ?_
      show OGo p e below _ (T2.setTop (mkF m 24 #[.val (.int p1), .val (.int ii)] [(.ref a_BAD_REQUEST)]))
      exact OGo.retR X2 hx Bd.notSynchronized Bd.returns rfl rfl (hb hby d4_24) (by decide) (by decide) (by show Qpk Z p1 a_OK a_BAD_REQUEST a_UNAUTHORIZED a_FORBIDDEN a_NOT_FOUND a_METHOD_NOT_ALLOWED a_CONFLICT a_PAYLOAD_TOO_LARGE a_MISDIRECTED a_INTERNAL_ERROR a_UNAVAILABLE h0 n0 _ T2.heap _; rw [e2]; exact ⟨a_BAD_REQUEST, 400, rfl, N0, rfl, H_BAD_REQUEST.2.1, H_BAD_REQUEST.2.2, Or.inr (Or.inr (by decide))⟩)
    · skip
      refine OGo.step (fun uK kK => XS.icmpYes X0.here hx rfl (pc0 := 18) (pc' := 25) rfl (hb hby d4_18) rfl (feq hc18).2 (by decide) (by decide) kK) ?_
      show OGo p e below _ (s₁.setTop (mkF m 25 #[.val (.int p1), .val (.int ii)] []))
      refine OGo.step (fun uK kK => XS.iloadN X0.here hx rfl (hb hby d4_25) rfl kK) ?_
      show OGo p e below _ (s₁.setTop (mkF m 26 #[.val (.int p1), .val (.int ii)] [(.int ii)]))
      refine OGo.step (fun uK kK => XS.iconst X0.here hx rfl (hb hby d4_26) kK) ?_
      show OGo p e below _ (s₁.setTop (mkF m 27 #[.val (.int p1), .val (.int ii)] [(.int (2 : Int32)), (.int ii)]))
      by_cases hc27 : ii = (2 : Int32)
      · skip
        refine OGo.step (fun uK kK => XS.icmpNo X0.here hx rfl (hb hby d4_27) rfl (teq hc27).2 kK) ?_
        show OGo p e below _ (s₁.setTop (mkF m 30 #[.val (.int p1), .val (.int ii)] []))
        obtain ⟨T3, X3, e3, st3⟩ := getS2 X0 hx hZ hown (host := "") (Or.inl (hw _ (List.mem_of_getElem? (i := 16) rfl))) Via.refl e0 H_UNAUTHORIZED.1 (g := (mkF m 30 #[.val (.int p1), .val (.int ii)] [])) rfl (hb hby d4_30)
        refine OGo.step (fun uK kK => st3 uK kK) ?_
        show OGo p e below _ (T3.setTop (mkF m 33 #[.val (.int p1), .val (.int ii)] [(.ref a_UNAUTHORIZED)]))
        exact OGo.retR X3 hx Bd.notSynchronized Bd.returns rfl rfl (hb hby d4_33) (by decide) (by decide) (by show Qpk Z p1 a_OK a_BAD_REQUEST a_UNAUTHORIZED a_FORBIDDEN a_NOT_FOUND a_METHOD_NOT_ALLOWED a_CONFLICT a_PAYLOAD_TOO_LARGE a_MISDIRECTED a_INTERNAL_ERROR a_UNAVAILABLE h0 n0 _ T3.heap _; rw [e3]; exact ⟨a_UNAUTHORIZED, 401, rfl, N0, rfl, H_UNAUTHORIZED.2.1, H_UNAUTHORIZED.2.2, Or.inr (Or.inr (by decide))⟩)
      · skip
        refine OGo.step (fun uK kK => XS.icmpYes X0.here hx rfl (pc0 := 27) (pc' := 34) rfl (hb hby d4_27) rfl (feq hc27).2 (by decide) (by decide) kK) ?_
        show OGo p e below _ (s₁.setTop (mkF m 34 #[.val (.int p1), .val (.int ii)] []))
        refine OGo.step (fun uK kK => XS.iloadN X0.here hx rfl (hb hby d4_34) rfl kK) ?_
        show OGo p e below _ (s₁.setTop (mkF m 35 #[.val (.int p1), .val (.int ii)] [(.int ii)]))
        refine OGo.step (fun uK kK => XS.iconst X0.here hx rfl (hb hby d4_35) kK) ?_
        show OGo p e below _ (s₁.setTop (mkF m 36 #[.val (.int p1), .val (.int ii)] [(.int (3 : Int32)), (.int ii)]))
        by_cases hc36 : ii = (3 : Int32)
        · skip
          refine OGo.step (fun uK kK => XS.icmpNo X0.here hx rfl (hb hby d4_36) rfl (teq hc36).2 kK) ?_
          show OGo p e below _ (s₁.setTop (mkF m 39 #[.val (.int p1), .val (.int ii)] []))
          obtain ⟨T4, X4, e4, st4⟩ := getS2 X0 hx hZ hown (host := "") (Or.inl (hw _ (List.mem_of_getElem? (i := 29) rfl))) Via.refl e0 H_FORBIDDEN.1 (g := (mkF m 39 #[.val (.int p1), .val (.int ii)] [])) rfl (hb hby d4_39)
          refine OGo.step (fun uK kK => st4 uK kK) ?_
          show OGo p e below _ (T4.setTop (mkF m 42 #[.val (.int p1), .val (.int ii)] [(.ref a_FORBIDDEN)]))
          exact OGo.retR X4 hx Bd.notSynchronized Bd.returns rfl rfl (hb hby d4_42) (by decide) (by decide) (by show Qpk Z p1 a_OK a_BAD_REQUEST a_UNAUTHORIZED a_FORBIDDEN a_NOT_FOUND a_METHOD_NOT_ALLOWED a_CONFLICT a_PAYLOAD_TOO_LARGE a_MISDIRECTED a_INTERNAL_ERROR a_UNAVAILABLE h0 n0 _ T4.heap _; rw [e4]; exact ⟨a_FORBIDDEN, 403, rfl, N0, rfl, H_FORBIDDEN.2.1, H_FORBIDDEN.2.2, Or.inr (Or.inr (by decide))⟩)
        · skip
          refine OGo.step (fun uK kK => XS.icmpYes X0.here hx rfl (pc0 := 36) (pc' := 43) rfl (hb hby d4_36) rfl (feq hc36).2 (by decide) (by decide) kK) ?_
          show OGo p e below _ (s₁.setTop (mkF m 43 #[.val (.int p1), .val (.int ii)] []))
          refine OGo.step (fun uK kK => XS.iloadN X0.here hx rfl (hb hby d4_43) rfl kK) ?_
          show OGo p e below _ (s₁.setTop (mkF m 44 #[.val (.int p1), .val (.int ii)] [(.int ii)]))
          refine OGo.step (fun uK kK => XS.iconst X0.here hx rfl (hb hby d4_44) kK) ?_
          show OGo p e below _ (s₁.setTop (mkF m 45 #[.val (.int p1), .val (.int ii)] [(.int (4 : Int32)), (.int ii)]))
          by_cases hc45 : ii = (4 : Int32)
          · skip
            refine OGo.step (fun uK kK => XS.icmpNo X0.here hx rfl (hb hby d4_45) rfl (teq hc45).2 kK) ?_
            show OGo p e below _ (s₁.setTop (mkF m 48 #[.val (.int p1), .val (.int ii)] []))
            obtain ⟨T5, X5, e5, st5⟩ := getS2 X0 hx hZ hown (host := "") (Or.inl (hw _ (List.mem_of_getElem? (i := 43) rfl))) Via.refl e0 H_NOT_FOUND.1 (g := (mkF m 48 #[.val (.int p1), .val (.int ii)] [])) rfl (hb hby d4_48)
            refine OGo.step (fun uK kK => st5 uK kK) ?_
            show OGo p e below _ (T5.setTop (mkF m 51 #[.val (.int p1), .val (.int ii)] [(.ref a_NOT_FOUND)]))
            exact OGo.retR X5 hx Bd.notSynchronized Bd.returns rfl rfl (hb hby d4_51) (by decide) (by decide) (by show Qpk Z p1 a_OK a_BAD_REQUEST a_UNAUTHORIZED a_FORBIDDEN a_NOT_FOUND a_METHOD_NOT_ALLOWED a_CONFLICT a_PAYLOAD_TOO_LARGE a_MISDIRECTED a_INTERNAL_ERROR a_UNAVAILABLE h0 n0 _ T5.heap _; rw [e5]; exact ⟨a_NOT_FOUND, 404, rfl, N0, rfl, H_NOT_FOUND.2.1, H_NOT_FOUND.2.2, Or.inr (Or.inr (by decide))⟩)
          · skip
            refine OGo.step (fun uK kK => XS.icmpYes X0.here hx rfl (pc0 := 45) (pc' := 52) rfl (hb hby d4_45) rfl (feq hc45).2 (by decide) (by decide) kK) ?_
            show OGo p e below _ (s₁.setTop (mkF m 52 #[.val (.int p1), .val (.int ii)] []))
            refine OGo.step (fun uK kK => XS.iloadN X0.here hx rfl (hb hby d4_52) rfl kK) ?_
            show OGo p e below _ (s₁.setTop (mkF m 53 #[.val (.int p1), .val (.int ii)] [(.int ii)]))
            refine OGo.step (fun uK kK => XS.iconst X0.here hx rfl (hb hby d4_53) kK) ?_
            show OGo p e below _ (s₁.setTop (mkF m 54 #[.val (.int p1), .val (.int ii)] [(.int (5 : Int32)), (.int ii)]))
            by_cases hc54 : ii = (5 : Int32)
            · skip
              refine OGo.step (fun uK kK => XS.icmpNo X0.here hx rfl (hb hby d4_54) rfl (teq hc54).2 kK) ?_
              show OGo p e below _ (s₁.setTop (mkF m 57 #[.val (.int p1), .val (.int ii)] []))
              obtain ⟨T6, X6, e6, st6⟩ := getS2 X0 hx hZ hown (host := "") (Or.inl (hw _ (List.mem_of_getElem? (i := 33) rfl))) Via.refl e0 H_METHOD_NOT_ALLOWED.1 (g := (mkF m 57 #[.val (.int p1), .val (.int ii)] [])) rfl (hb hby d4_57)
              refine OGo.step (fun uK kK => st6 uK kK) ?_
              show OGo p e below _ (T6.setTop (mkF m 60 #[.val (.int p1), .val (.int ii)] [(.ref a_METHOD_NOT_ALLOWED)]))
              exact OGo.retR X6 hx Bd.notSynchronized Bd.returns rfl rfl (hb hby d4_60) (by decide) (by decide) (by show Qpk Z p1 a_OK a_BAD_REQUEST a_UNAUTHORIZED a_FORBIDDEN a_NOT_FOUND a_METHOD_NOT_ALLOWED a_CONFLICT a_PAYLOAD_TOO_LARGE a_MISDIRECTED a_INTERNAL_ERROR a_UNAVAILABLE h0 n0 _ T6.heap _; rw [e6]; exact ⟨a_METHOD_NOT_ALLOWED, 405, rfl, N0, rfl, H_METHOD_NOT_ALLOWED.2.1, H_METHOD_NOT_ALLOWED.2.2, Or.inr (Or.inr (by decide))⟩)
            · skip
              refine OGo.step (fun uK kK => XS.icmpYes X0.here hx rfl (pc0 := 54) (pc' := 61) rfl (hb hby d4_54) rfl (feq hc54).2 (by decide) (by decide) kK) ?_
              show OGo p e below _ (s₁.setTop (mkF m 61 #[.val (.int p1), .val (.int ii)] []))
              refine OGo.step (fun uK kK => XS.iloadN X0.here hx rfl (hb hby d4_61) rfl kK) ?_
              show OGo p e below _ (s₁.setTop (mkF m 62 #[.val (.int p1), .val (.int ii)] [(.int ii)]))
              refine OGo.step (fun uK kK => XS.bipush X0.here hx rfl (hb hby d4_62) kK) ?_
              show OGo p e below _ (s₁.setTop (mkF m 64 #[.val (.int p1), .val (.int ii)] [(.int (6 : Int32)), (.int ii)]))
              by_cases hc64 : ii = (6 : Int32)
              · skip
                refine OGo.step (fun uK kK => XS.icmpNo X0.here hx rfl (hb hby d4_64) rfl (teq hc64).2 kK) ?_
                show OGo p e below _ (s₁.setTop (mkF m 67 #[.val (.int p1), .val (.int ii)] []))
                obtain ⟨T7, X7, e7, st7⟩ := getS2 X0 hx hZ hown (host := "") (Or.inl (hw _ (List.mem_of_getElem? (i := 35) rfl))) Via.refl e0 H_CONFLICT.1 (g := (mkF m 67 #[.val (.int p1), .val (.int ii)] [])) rfl (hb hby d4_67)
                refine OGo.step (fun uK kK => st7 uK kK) ?_
                show OGo p e below _ (T7.setTop (mkF m 70 #[.val (.int p1), .val (.int ii)] [(.ref a_CONFLICT)]))
                exact OGo.retR X7 hx Bd.notSynchronized Bd.returns rfl rfl (hb hby d4_70) (by decide) (by decide) (by show Qpk Z p1 a_OK a_BAD_REQUEST a_UNAUTHORIZED a_FORBIDDEN a_NOT_FOUND a_METHOD_NOT_ALLOWED a_CONFLICT a_PAYLOAD_TOO_LARGE a_MISDIRECTED a_INTERNAL_ERROR a_UNAVAILABLE h0 n0 _ T7.heap _; rw [e7]; exact ⟨a_CONFLICT, 409, rfl, N0, rfl, H_CONFLICT.2.1, H_CONFLICT.2.2, Or.inr (Or.inr (by decide))⟩)
              · skip
                refine OGo.step (fun uK kK => XS.icmpYes X0.here hx rfl (pc0 := 64) (pc' := 71) rfl (hb hby d4_64) rfl (feq hc64).2 (by decide) (by decide) kK) ?_
                show OGo p e below _ (s₁.setTop (mkF m 71 #[.val (.int p1), .val (.int ii)] []))
                refine OGo.step (fun uK kK => XS.iloadN X0.here hx rfl (hb hby d4_71) rfl kK) ?_
                show OGo p e below _ (s₁.setTop (mkF m 72 #[.val (.int p1), .val (.int ii)] [(.int ii)]))
                refine OGo.step (fun uK kK => XS.bipush X0.here hx rfl (hb hby d4_72) kK) ?_
                show OGo p e below _ (s₁.setTop (mkF m 74 #[.val (.int p1), .val (.int ii)] [(.int (7 : Int32)), (.int ii)]))
                by_cases hc74 : ii = (7 : Int32)
                · skip
                  refine OGo.step (fun uK kK => XS.icmpNo X0.here hx rfl (hb hby d4_74) rfl (teq hc74).2 kK) ?_
                  show OGo p e below _ (s₁.setTop (mkF m 77 #[.val (.int p1), .val (.int ii)] []))
                  obtain ⟨T8, X8, e8, st8⟩ := getS2 X0 hx hZ hown (host := "") (Or.inl (hw _ (List.mem_of_getElem? (i := 39) rfl))) Via.refl e0 H_PAYLOAD_TOO_LARGE.1 (g := (mkF m 77 #[.val (.int p1), .val (.int ii)] [])) rfl (hb hby d4_77)
                  refine OGo.step (fun uK kK => st8 uK kK) ?_
                  show OGo p e below _ (T8.setTop (mkF m 80 #[.val (.int p1), .val (.int ii)] [(.ref a_PAYLOAD_TOO_LARGE)]))
                  exact OGo.retR X8 hx Bd.notSynchronized Bd.returns rfl rfl (hb hby d4_80) (by decide) (by decide) (by show Qpk Z p1 a_OK a_BAD_REQUEST a_UNAUTHORIZED a_FORBIDDEN a_NOT_FOUND a_METHOD_NOT_ALLOWED a_CONFLICT a_PAYLOAD_TOO_LARGE a_MISDIRECTED a_INTERNAL_ERROR a_UNAVAILABLE h0 n0 _ T8.heap _; rw [e8]; exact ⟨a_PAYLOAD_TOO_LARGE, 413, rfl, N0, rfl, H_PAYLOAD_TOO_LARGE.2.1, H_PAYLOAD_TOO_LARGE.2.2, Or.inr (Or.inr (by decide))⟩)
                · skip
                  refine OGo.step (fun uK kK => XS.icmpYes X0.here hx rfl (pc0 := 74) (pc' := 81) rfl (hb hby d4_74) rfl (feq hc74).2 (by decide) (by decide) kK) ?_
                  show OGo p e below _ (s₁.setTop (mkF m 81 #[.val (.int p1), .val (.int ii)] []))
                  refine OGo.step (fun uK kK => XS.iloadN X0.here hx rfl (hb hby d4_81) rfl kK) ?_
                  show OGo p e below _ (s₁.setTop (mkF m 82 #[.val (.int p1), .val (.int ii)] [(.int ii)]))
                  refine OGo.step (fun uK kK => XS.bipush X0.here hx rfl (hb hby d4_82) kK) ?_
                  show OGo p e below _ (s₁.setTop (mkF m 84 #[.val (.int p1), .val (.int ii)] [(.int (8 : Int32)), (.int ii)]))
                  by_cases hc84 : ii = (8 : Int32)
                  · skip
                    refine OGo.step (fun uK kK => XS.icmpNo X0.here hx rfl (hb hby d4_84) rfl (teq hc84).2 kK) ?_
                    show OGo p e below _ (s₁.setTop (mkF m 87 #[.val (.int p1), .val (.int ii)] []))
                    obtain ⟨T9, X9, e9, st9⟩ := getS2 X0 hx hZ hown (host := "") (Or.inl (hw _ (List.mem_of_getElem? (i := 31) rfl))) Via.refl e0 H_MISDIRECTED.1 (g := (mkF m 87 #[.val (.int p1), .val (.int ii)] [])) rfl (hb hby d4_87)
                    refine OGo.step (fun uK kK => st9 uK kK) ?_
                    show OGo p e below _ (T9.setTop (mkF m 90 #[.val (.int p1), .val (.int ii)] [(.ref a_MISDIRECTED)]))
                    exact OGo.retR X9 hx Bd.notSynchronized Bd.returns rfl rfl (hb hby d4_90) (by decide) (by decide) (by show Qpk Z p1 a_OK a_BAD_REQUEST a_UNAUTHORIZED a_FORBIDDEN a_NOT_FOUND a_METHOD_NOT_ALLOWED a_CONFLICT a_PAYLOAD_TOO_LARGE a_MISDIRECTED a_INTERNAL_ERROR a_UNAVAILABLE h0 n0 _ T9.heap _; rw [e9]; exact ⟨a_MISDIRECTED, 421, rfl, N0, rfl, H_MISDIRECTED.2.1, H_MISDIRECTED.2.2, Or.inr (Or.inr (by decide))⟩)
                  · skip
                    refine OGo.step (fun uK kK => XS.icmpYes X0.here hx rfl (pc0 := 84) (pc' := 91) rfl (hb hby d4_84) rfl (feq hc84).2 (by decide) (by decide) kK) ?_
                    show OGo p e below _ (s₁.setTop (mkF m 91 #[.val (.int p1), .val (.int ii)] []))
                    refine OGo.step (fun uK kK => XS.iloadN X0.here hx rfl (hb hby d4_91) rfl kK) ?_
                    show OGo p e below _ (s₁.setTop (mkF m 92 #[.val (.int p1), .val (.int ii)] [(.int ii)]))
                    refine OGo.step (fun uK kK => XS.bipush X0.here hx rfl (hb hby d4_92) kK) ?_
                    show OGo p e below _ (s₁.setTop (mkF m 94 #[.val (.int p1), .val (.int ii)] [(.int (9 : Int32)), (.int ii)]))
                    by_cases hc94 : ii = (9 : Int32)
                    · skip
                      refine OGo.step (fun uK kK => XS.icmpNo X0.here hx rfl (hb hby d4_94) rfl (teq hc94).2 kK) ?_
                      show OGo p e below _ (s₁.setTop (mkF m 97 #[.val (.int p1), .val (.int ii)] []))
                      obtain ⟨T10, X10, e10, st10⟩ := getS2 X0 hx hZ hown (host := "") (Or.inl (hw _ (List.mem_of_getElem? (i := 18) rfl))) Via.refl e0 H_INTERNAL_ERROR.1 (g := (mkF m 97 #[.val (.int p1), .val (.int ii)] [])) rfl (hb hby d4_97)
                      refine OGo.step (fun uK kK => st10 uK kK) ?_
                      show OGo p e below _ (T10.setTop (mkF m 100 #[.val (.int p1), .val (.int ii)] [(.ref a_INTERNAL_ERROR)]))
                      exact OGo.retR X10 hx Bd.notSynchronized Bd.returns rfl rfl (hb hby d4_100) (by decide) (by decide) (by show Qpk Z p1 a_OK a_BAD_REQUEST a_UNAUTHORIZED a_FORBIDDEN a_NOT_FOUND a_METHOD_NOT_ALLOWED a_CONFLICT a_PAYLOAD_TOO_LARGE a_MISDIRECTED a_INTERNAL_ERROR a_UNAVAILABLE h0 n0 _ T10.heap _; rw [e10]; exact ⟨a_INTERNAL_ERROR, 500, rfl, N0, rfl, H_INTERNAL_ERROR.2.1, H_INTERNAL_ERROR.2.2, Or.inl ⟨rfl, rfl⟩⟩)
                    · skip
                      refine OGo.step (fun uK kK => XS.icmpYes X0.here hx rfl (pc0 := 94) (pc' := 101) rfl (hb hby d4_94) rfl (feq hc94).2 (by decide) (by decide) kK) ?_
                      show OGo p e below _ (s₁.setTop (mkF m 101 #[.val (.int p1), .val (.int ii)] []))
                      obtain ⟨T11, X11, e11, st11⟩ := getS2 X0 hx hZ hown (host := "") (Or.inl (hw _ (List.mem_of_getElem? (i := 20) rfl))) Via.refl e0 H_UNAVAILABLE.1 (g := (mkF m 101 #[.val (.int p1), .val (.int ii)] [])) rfl (hb hby d4_101)
                      refine OGo.step (fun uK kK => st11 uK kK) ?_
                      show OGo p e below _ (T11.setTop (mkF m 104 #[.val (.int p1), .val (.int ii)] [(.ref a_UNAVAILABLE)]))
                      exact OGo.retR X11 hx Bd.notSynchronized Bd.returns rfl rfl (hb hby d4_104) (by decide) (by decide) (by show Qpk Z p1 a_OK a_BAD_REQUEST a_UNAUTHORIZED a_FORBIDDEN a_NOT_FOUND a_METHOD_NOT_ALLOWED a_CONFLICT a_PAYLOAD_TOO_LARGE a_MISDIRECTED a_INTERNAL_ERROR a_UNAVAILABLE h0 n0 _ T11.heap _; rw [e11]; exact ⟨a_UNAVAILABLE, 503, rfl, N0, rfl, H_UNAVAILABLE.2.1, H_UNAVAILABLE.2.2, Or.inr (Or.inl ⟨rfl, rfl⟩)⟩)
theorem d5_0 : decode prog_3_method_4_code 0 = .ok (.aload_n 0, 1) := by decide +kernel
theorem d5_1 : decode prog_3_method_4_code 1 = .ok (.getfield 56, 3) := by decide +kernel
theorem d5_4 : decode prog_3_method_4_code 4 = .ok (.ireturn, 1) := by decide +kernel
theorem pncd : plainName "com/example/coxswain/coxswain/api/ApiStatus" = true := by first | (simp [plainName, overriddenIn]; done) | decide +kernel
theorem efcd (m : MethodId) (x0 : Addr) : entryFrame m #[(.ref x0)] 1 = mkF m 0 #[.val (.ref x0)] [] := by first | (simp [entryFrame, mkF, argsToLocals, Value.category]; done) | rfl
def Qcd (Z : State) (a : Addr) (cd : Int32) (h0 : Heap) (n0 : Nat) (v : Option Value) (h : Heap) (L : List Loc) : Prop := v = some (.int cd) ∧ Fr n0 L ∧ h = h0
set_option maxRecDepth 65536 in
set_option maxHeartbeats 40000000 in
theorem rmcd (l : Launch) (Z : State) (a0 : Array Value) (hw : ∀ d ∈ tables_1, d.before a0 Z = true) (ws : List Jvm.Cond) (a : Addr) (cd : Int32) (h0 : Heap) (n0 : Nat) (Z0 : n0 ≤ h0.size) (Fc : Fld Z h0 a "com/example/coxswain/coxswain/api/ApiStatus" "code" "I" (.int cd)) :
    MetFree l (⟨"com/example/coxswain/coxswain/api/ApiStatus", "code", "()I"⟩ : MethodName) (head1 (Jvm.Cond.code (⟨"com/example/coxswain/coxswain/api/ApiStatus", "code", "()I"⟩ : MethodName) prog_3_method_4_code 1 (some .int) :: ws) ({ frames := 0, cells := 0, slots := 0, locals := 0 } : Room)) (fun aQ UQ => aQ = #[(.ref a)] ∧ Z.Warmed39 UQ.vm ∧ UQ.heap = h0) (fun _ _ _ _ _ => True) (fun _ U o U' => ∃ v L, o = .returned v ∧ Qcd Z a cd h0 n0 v U'.heap L ∧ FrameEnd U o U' L ({ frames := 0, cells := 0, slots := 0, locals := 0 } : Room).cells ({ frames := 0, cells := 0, slots := 0, locals := 0 } : Room).slots) := by
  refine MetFree.of_bodySF (plainFor_of_name pncd) hisR ?_
  intro p e s m args below meth c s₁ Bd hml0 hP hK
  obtain ⟨rfl, hZ, hh⟩ := hP
  have hx := Bd.exec
  have hby := Bd.bytes
  have hml : c.maxLocals = 1 := hml0
  have hown : s.vm.findClass "com/example/coxswain/coxswain/api/ApiStatus" = some m.cls := findClass_of_methodNamed Bd.named
  have hnm := (name_of_methodNamed Bd.named Bd.method).1
  have X0 : Stand p l e ({ frames := 0, cells := 0, slots := 0, locals := 0 } : Room) s m #[(.ref a)] below meth c s₁ [] 0 0 := Stand.of_body Bd
  have e0 : s₁.heap = h0 := by rw [← hh, Bd.state]; rfl
  have N0 := Fr.nil n0
  show OGo p e below (OPost s (Qcd Z a cd h0 n0) ({ frames := 0, cells := 0, slots := 0, locals := 0 } : Room).cells ({ frames := 0, cells := 0, slots := 0, locals := 0 } : Room).slots) (s₁.setTop (entryFrame m #[(.ref a)] 1))
  refine OGo.step (fun uK kK => castTop (efcd m a) kK) ?_
  show OGo p e below _ (s₁.setTop (mkF m 0 #[.val (.ref a)] []))
  refine OGo.step (fun uK kK => XS.aloadN X0.here hx rfl (hb hby d5_0) rfl rfl kK) ?_
  show OGo p e below _ (s₁.setTop (mkF m 1 #[.val (.ref a)] [(.ref a)]))
  obtain ⟨T1, X1, e1, st1⟩ := getF X0 hx hZ hown (host := "") (Or.inl (hw _ (List.mem_of_getElem? (i := 27) rfl))) Via.refl e0 Fc (g := (mkF m 1 #[.val (.ref a)] [(.ref a)])) rfl rfl (hb hby d5_1)
  refine OGo.step (fun uK kK => st1 uK kK) ?_
  show OGo p e below _ (T1.setTop (mkF m 4 #[.val (.ref a)] [(.int cd)]))
  exact OGo.retI X1 hx Bd.notSynchronized Bd.returns (hb hby d5_4) (by decide) (by decide) (by show Qcd Z a cd h0 n0 _ T1.heap _; rw [e1]; exact ⟨rfl, N0, rfl⟩)
theorem own_lt500 {z w : Int32} (h : z < (500 : Int32)) (k : ¬ w < (500 : Int32)) : Value.int z ≠ Value.int w := fun q => k (by injection q with q; rw [← q]; exact h)
theorem pn0 : plainName "com/example/coxswain/coxswain/api/ApiStatusMayHaveTakenEffectPinLaw" = true := by first | (simp [plainName, overriddenIn]; done) | decide +kernel
theorem pd0_0 : parseMethodDescriptor "(II)I" = some ⟨[.int, .int], some .int⟩ := by decide +kernel
theorem pd0_1 : parseMethodDescriptor "(I)Z" = some ⟨[.int], some .boolean⟩ := by decide +kernel
theorem pd0_2 : parseMethodDescriptor "(I)Lcom/example/coxswain/coxswain/api/ApiStatus;" = some ⟨[.int], some (.object "com/example/coxswain/coxswain/api/ApiStatus")⟩ := by decide +kernel
theorem pd0_3 : parseMethodDescriptor "()I" = some ⟨[], some .int⟩ := by decide +kernel
theorem ef0 (m : MethodId) (x0 : Int32) (x1 : Int32) (x2 : Int32) : entryFrame m #[(.int x0), (.int x1), (.int x2)] maxLocals = mkF m 0 #[.val (.int x0), .val (.int x1), .val (.int x2), .unset, .unset, .unset, .unset, .unset, .unset, .unset, .unset] [] := by first | (simp [entryFrame, mkF, argsToLocals, Value.category, maxLocals]; done) | rfl
def Q0 (Z : State) (p0 : Int32) (p1 : Int32) (p2 : Int32) (a_OK : Addr) (a_BAD_REQUEST : Addr) (a_UNAUTHORIZED : Addr) (a_FORBIDDEN : Addr) (a_NOT_FOUND : Addr) (a_METHOD_NOT_ALLOWED : Addr) (a_CONFLICT : Addr) (a_PAYLOAD_TOO_LARGE : Addr) (a_MISDIRECTED : Addr) (a_INTERNAL_ERROR : Addr) (a_UNAVAILABLE : Addr) (h0 : Heap) (n0 : Nat) (v : Option Value) (h : Heap) (L : List Loc) : Prop := v = some (.int 1) ∧ Fr n0 L
set_option maxRecDepth 65536 in
set_option maxHeartbeats 40000000 in
theorem rm0 (l : Launch) (Z : State) (a0 : Array Value) (hw : ∀ d ∈ tables_1, d.before a0 Z = true) (ws : List Jvm.Cond) (p0 : Int32) (p1 : Int32) (p2 : Int32) (a_OK : Addr) (a_BAD_REQUEST : Addr) (a_UNAUTHORIZED : Addr) (a_FORBIDDEN : Addr) (a_NOT_FOUND : Addr) (a_METHOD_NOT_ALLOWED : Addr) (a_CONFLICT : Addr) (a_PAYLOAD_TOO_LARGE : Addr) (a_MISDIRECTED : Addr) (a_INTERNAL_ERROR : Addr) (a_UNAVAILABLE : Addr) (h0 : Heap) (n0 : Nat) (Z0 : n0 ≤ h0.size) (H_OK : En Z h0 "OK" 200 a_OK) (H_BAD_REQUEST : En Z h0 "BAD_REQUEST" 400 a_BAD_REQUEST) (H_UNAUTHORIZED : En Z h0 "UNAUTHORIZED" 401 a_UNAUTHORIZED) (H_FORBIDDEN : En Z h0 "FORBIDDEN" 403 a_FORBIDDEN) (H_NOT_FOUND : En Z h0 "NOT_FOUND" 404 a_NOT_FOUND) (H_METHOD_NOT_ALLOWED : En Z h0 "METHOD_NOT_ALLOWED" 405 a_METHOD_NOT_ALLOWED) (H_CONFLICT : En Z h0 "CONFLICT" 409 a_CONFLICT) (H_PAYLOAD_TOO_LARGE : En Z h0 "PAYLOAD_TOO_LARGE" 413 a_PAYLOAD_TOO_LARGE) (H_MISDIRECTED : En Z h0 "MISDIRECTED" 421 a_MISDIRECTED) (H_INTERNAL_ERROR : En Z h0 "INTERNAL_ERROR" 500 a_INTERNAL_ERROR) (H_UNAVAILABLE : En Z h0 "UNAVAILABLE" 503 a_UNAVAILABLE) :
    MetFree l x (head1 (Jvm.Cond.code x code maxLocals ret :: ws) room_1) (fun aQ UQ => aQ = #[(.int p0), (.int p1), (.int p2)] ∧ Z.Warmed39 UQ.vm ∧ UQ.heap = h0) (fun _ _ _ _ _ => True) (fun _ U o U' => ∃ v L, o = .returned v ∧ Q0 Z p0 p1 p2 a_OK a_BAD_REQUEST a_UNAUTHORIZED a_FORBIDDEN a_NOT_FOUND a_METHOD_NOT_ALLOWED a_CONFLICT a_PAYLOAD_TOO_LARGE a_MISDIRECTED a_INTERNAL_ERROR a_UNAVAILABLE h0 n0 v U'.heap L ∧ FrameEnd U o U' L room_1.cells room_1.slots) := by
  refine MetFree.of_bodySF (plainFor_of_name pn0) hisR ?_
  intro p e s m args below meth c s₁ Bd hml0 hP hK
  obtain ⟨rfl, hZ, hh⟩ := hP
  have hx := Bd.exec
  have hby := Bd.bytes
  have hml : c.maxLocals = 11 := hml0
  have hown : s.vm.findClass "com/example/coxswain/coxswain/api/ApiStatusMayHaveTakenEffectPinLaw" = some m.cls := findClass_of_methodNamed Bd.named
  have hnm := (name_of_methodNamed Bd.named Bd.method).1
  have X0 : Stand p l e room_1 s m #[(.int p0), (.int p1), (.int p2)] below meth c s₁ [] 0 0 := Stand.of_body Bd
  have e0 : s₁.heap = h0 := by rw [← hh, Bd.state]; rfl
  have N0 := Fr.nil n0
  show OGo p e below (OPost s (Q0 Z p0 p1 p2 a_OK a_BAD_REQUEST a_UNAUTHORIZED a_FORBIDDEN a_NOT_FOUND a_METHOD_NOT_ALLOWED a_CONFLICT a_PAYLOAD_TOO_LARGE a_MISDIRECTED a_INTERNAL_ERROR a_UNAVAILABLE h0 n0) room_1.cells room_1.slots) (s₁.setTop (entryFrame m #[(.int p0), (.int p1), (.int p2)] maxLocals))
  refine OGo.step (fun uK kK => castTop (ef0 m p0 p1 p2) kK) ?_
  show OGo p e below _ (s₁.setTop (mkF m 0 #[.val (.int p0), .val (.int p1), .val (.int p2), .unset, .unset, .unset, .unset, .unset, .unset, .unset, .unset] []))
  refine OGo.step (fun uK kK => XS.iloadN X0.here hx rfl (hb hby at_0) rfl kK) ?_
  show OGo p e below _ (s₁.setTop (mkF m 1 #[.val (.int p0), .val (.int p1), .val (.int p2), .unset, .unset, .unset, .unset, .unset, .unset, .unset, .unset] [(.int p0)]))
  refine OGo.step (fun uK kK => XS.iloadN X0.here hx rfl (hb hby at_1) rfl kK) ?_
  show OGo p e below _ (s₁.setTop (mkF m 2 #[.val (.int p0), .val (.int p1), .val (.int p2), .unset, .unset, .unset, .unset, .unset, .unset, .unset, .unset] [(.int p1), (.int p0)]))
  obtain ⟨_, _, ⟨T1, Lq1, kq_1, nq_1⟩, -, X1, ⟨Lc1, hQ1, lq1, yq1, zq1⟩, st1⟩ := Jvm.LawKit.callS X0 hx (y := (⟨"java/lang/Math", "min", "(II)I"⟩ : MethodName)) hown (mvT hZ (hw _ (List.mem_of_getElem? (i := 0) rfl))) (mvT hZ (hw _ (List.mem_of_getElem? (i := 1) rfl))) (mvT hZ (hw _ (List.mem_of_getElem? (i := 2) rfl))) (mvT hZ (hw _ (List.mem_of_getElem? (i := 3) rfl))) (by decide) (backOf (W := 0) (rmmn l Z a0 hw [] p0 p1  h0 n0 Z0 ) hZ (hw _ (List.mem_of_getElem? (i := 3) rfl)) (hw _ (List.mem_of_getElem? (i := 2) rfl)) (by decide) (by decide)) (g := (mkF m 2 #[.val (.int p0), .val (.int p1), .val (.int p2), .unset, .unset, .unset, .unset, .unset, .unset, .unset, .unset] [(.int p1), (.int p0)])) rfl (by rw [hml]; rfl) (argsL := [(.int p0), (.int p1)]) (rest := []) (lenOf pd0_0 rfl) rfl (by show 2 * 0 + _ ≤ _; exact Nat.le_of_eq rfl) (hb hby at_2) (fun _ _ => ⟨rfl, e0, (by decide : 0 + 0 ≤ _), (by decide : 0 + 0 ≤ _)⟩)
  dsimp only [Pt.U, Pt.locs, Pt.cells, Pt.slots] at X1 lq1 yq1 zq1 st1 hQ1
  subst lq1 yq1 zq1
  obtain ⟨rfl, Nq1, e1⟩ := hQ1
  have N1 := Fr.app N0 Nq1
  refine OGo.step (fun uK kK => st1 uK kK) ?_
  show OGo p e below _ (T1.setTop (mkF m 5 #[.val (.int p0), .val (.int p1), .val (.int p2), .unset, .unset, .unset, .unset, .unset, .unset, .unset, .unset] [(.int (if p1 < p0 then p1 else p0))]))
  obtain ⟨lo, ev_lo⟩ : ∃ z : Int32, z = (if p1 < p0 then p1 else p0) := ⟨_, rfl⟩
  rw [← ev_lo]
  show OGo p e below _ (T1.setTop (mkF m 5 #[.val (.int p0), .val (.int p1), .val (.int p2), .unset, .unset, .unset, .unset, .unset, .unset, .unset, .unset] [(.int lo)]))
  refine OGo.step (fun uK kK => XS.istoreN X1.here hx rfl (hb hby at_5) rfl (l' := #[.val (.int p0), .val (.int p1), .val (.int p2), .val (.int lo), .unset, .unset, .unset, .unset, .unset, .unset, .unset]) rfl kK) ?_
  show OGo p e below _ (T1.setTop (mkF m 6 #[.val (.int p0), .val (.int p1), .val (.int p2), .val (.int lo), .unset, .unset, .unset, .unset, .unset, .unset, .unset] []))
  refine OGo.step (fun uK kK => XS.iloadN X1.here hx rfl (hb hby at_6) rfl kK) ?_
  show OGo p e below _ (T1.setTop (mkF m 7 #[.val (.int p0), .val (.int p1), .val (.int p2), .val (.int lo), .unset, .unset, .unset, .unset, .unset, .unset, .unset] [(.int p0)]))
  refine OGo.step (fun uK kK => XS.iloadN X1.here hx rfl (hb hby at_7) rfl kK) ?_
  show OGo p e below _ (T1.setTop (mkF m 8 #[.val (.int p0), .val (.int p1), .val (.int p2), .val (.int lo), .unset, .unset, .unset, .unset, .unset, .unset, .unset] [(.int p1), (.int p0)]))
  obtain ⟨_, _, ⟨T2, Lq2, kq_2, nq_2⟩, -, X2, ⟨Lc2, hQ2, lq2, yq2, zq2⟩, st2⟩ := Jvm.LawKit.callS X1 hx (y := (⟨"java/lang/Math", "max", "(II)I"⟩ : MethodName)) hown (mvT hZ (hw _ (List.mem_of_getElem? (i := 4) rfl))) (mvT hZ (hw _ (List.mem_of_getElem? (i := 5) rfl))) (mvT hZ (hw _ (List.mem_of_getElem? (i := 2) rfl))) (mvT hZ (hw _ (List.mem_of_getElem? (i := 6) rfl))) (by decide) (backOf (W := 0) (rmmx l Z a0 hw [] p0 p1  h0 n0 Z0 ) hZ (hw _ (List.mem_of_getElem? (i := 6) rfl)) (hw _ (List.mem_of_getElem? (i := 2) rfl)) (by decide) (by decide)) (g := (mkF m 8 #[.val (.int p0), .val (.int p1), .val (.int p2), .val (.int lo), .unset, .unset, .unset, .unset, .unset, .unset, .unset] [(.int p1), (.int p0)])) rfl (by rw [hml]; rfl) (argsL := [(.int p0), (.int p1)]) (rest := []) (lenOf pd0_0 rfl) rfl (by show 2 * 0 + _ ≤ _; exact Nat.le_of_eq rfl) (hb hby at_8) (fun _ _ => ⟨rfl, e1, (by decide : 0 + 0 ≤ _), (by decide : 0 + 0 ≤ _)⟩)
  dsimp only [Pt.U, Pt.locs, Pt.cells, Pt.slots] at X2 lq2 yq2 zq2 st2 hQ2
  subst lq2 yq2 zq2
  obtain ⟨rfl, Nq2, e2⟩ := hQ2
  have N2 := Fr.app N1 Nq2
  refine OGo.step (fun uK kK => st2 uK kK) ?_
  show OGo p e below _ (T2.setTop (mkF m 11 #[.val (.int p0), .val (.int p1), .val (.int p2), .val (.int lo), .unset, .unset, .unset, .unset, .unset, .unset, .unset] [(.int (if p0 < p1 then p1 else p0))]))
  obtain ⟨hi, ev_hi⟩ : ∃ z : Int32, z = (if p0 < p1 then p1 else p0) := ⟨_, rfl⟩
  rw [← ev_hi]
  show OGo p e below _ (T2.setTop (mkF m 11 #[.val (.int p0), .val (.int p1), .val (.int p2), .val (.int lo), .unset, .unset, .unset, .unset, .unset, .unset, .unset] [(.int hi)]))
  refine OGo.step (fun uK kK => XS.istore X2.here hx rfl (hb hby at_11) rfl (l' := #[.val (.int p0), .val (.int p1), .val (.int p2), .val (.int lo), .val (.int hi), .unset, .unset, .unset, .unset, .unset, .unset]) rfl kK) ?_
  show OGo p e below _ (T2.setTop (mkF m 13 #[.val (.int p0), .val (.int p1), .val (.int p2), .val (.int lo), .val (.int hi), .unset, .unset, .unset, .unset, .unset, .unset] []))
  refine OGo.step (fun uK kK => XS.iloadN X2.here hx rfl (hb hby at_13) rfl kK) ?_
  show OGo p e below _ (T2.setTop (mkF m 14 #[.val (.int p0), .val (.int p1), .val (.int p2), .val (.int lo), .val (.int hi), .unset, .unset, .unset, .unset, .unset, .unset] [(.int lo)]))
  obtain ⟨_, _, ⟨T3, Lq3, kq_3, nq_3⟩, -, X3, ⟨Lc3, hQ3, lq3, yq3, zq3⟩, st3⟩ := Jvm.LawKit.callS X2 hx (y := (⟨"com/example/coxswain/coxswain/api/ApiStatus", "mayHaveTakenEffect", "(I)Z"⟩ : MethodName)) hown (mvT hZ (hw _ (List.mem_of_getElem? (i := 7) rfl))) (mvT hZ (hw _ (List.mem_of_getElem? (i := 8) rfl))) (mvT hZ (hw _ (List.mem_of_getElem? (i := 9) rfl))) (mvT hZ (hw _ (List.mem_of_getElem? (i := 10) rfl))) (by decide) (backOf (W := 0) (rmmy l Z a0 hw [] lo  h0 n0 Z0 ) hZ (hw _ (List.mem_of_getElem? (i := 10) rfl)) (hw _ (List.mem_of_getElem? (i := 9) rfl)) (by decide) (by decide)) (g := (mkF m 14 #[.val (.int p0), .val (.int p1), .val (.int p2), .val (.int lo), .val (.int hi), .unset, .unset, .unset, .unset, .unset, .unset] [(.int lo)])) rfl (by rw [hml]; rfl) (argsL := [(.int lo)]) (rest := []) (lenOf pd0_1 rfl) rfl (by show 2 * 0 + _ ≤ _; exact Nat.le_of_eq rfl) (hb hby at_14) (fun _ _ => ⟨rfl, e2, (by decide : 0 + 0 ≤ _), (by decide : 0 + 0 ≤ _)⟩)
  dsimp only [Pt.U, Pt.locs, Pt.cells, Pt.slots] at X3 lq3 yq3 zq3 st3 hQ3
  subst lq3 yq3 zq3
  obtain ⟨rfl, Nq3, e3⟩ := hQ3
  have N3 := Fr.app N2 Nq3
  refine OGo.step (fun uK kK => st3 uK kK) ?_
  show OGo p e below _ (T3.setTop (mkF m 17 #[.val (.int p0), .val (.int p1), .val (.int p2), .val (.int lo), .val (.int hi), .unset, .unset, .unset, .unset, .unset, .unset] [(.int (nar .boolean (if lo < (500 : Int32) then (0 : Int32) else (1 : Int32))))]))
  suffices tail5 : ∀ (T' : State) (locs' : List Loc), Stand p l e room_1 s m #[(.int p0), (.int p1), (.int p2)] below meth c T' locs' 0 0 → T'.heap = h0 → Fr n0 locs' → OGo p e below (OPost s (Q0 Z p0 p1 p2 a_OK a_BAD_REQUEST a_UNAUTHORIZED a_FORBIDDEN a_NOT_FOUND a_METHOD_NOT_ALLOWED a_CONFLICT a_PAYLOAD_TOO_LARGE a_MISDIRECTED a_INTERNAL_ERROR a_UNAVAILABLE h0 n0) room_1.cells room_1.slots) (T'.setTop (mkF m 33 #[.val (.int p0), .val (.int p1), .val (.int p2), .val (.int lo), .val (.int hi), .unset, .unset, .unset, .unset, .unset, .unset] [(.int (1 : Int32))])) by
    by_cases hc17 : (nar .boolean (if lo < (500 : Int32) then (0 : Int32) else (1 : Int32))) = (0 : Int32)
    · skip
      refine OGo.step (fun uK kK => XS.ifYes X3.here hx rfl (pc0 := 17) (pc' := 28) rfl (hb hby at_17) rfl ((if0 _ _).trans (teq hc17).1) (by decide) (by decide) kK) ?_
      show OGo p e below _ (T3.setTop (mkF m 28 #[.val (.int p0), .val (.int p1), .val (.int p2), .val (.int lo), .val (.int hi), .unset, .unset, .unset, .unset, .unset, .unset] []))
      refine OGo.step (fun uK kK => XS.iconst X3.here hx rfl (hb hby at_28) kK) ?_
      show OGo p e below _ (T3.setTop (mkF m 29 #[.val (.int p0), .val (.int p1), .val (.int p2), .val (.int lo), .val (.int hi), .unset, .unset, .unset, .unset, .unset, .unset] [(.int (1 : Int32))]))
      refine OGo.step (fun uK kK => XS.goto X3.here hx rfl (pc0 := 29) (pc' := 33) rfl (hb hby at_29) (by decide) (by decide) kK) ?_
      show OGo p e below _ (T3.setTop (mkF m 33 #[.val (.int p0), .val (.int p1), .val (.int p2), .val (.int lo), .val (.int hi), .unset, .unset, .unset, .unset, .unset, .unset] [(.int (1 : Int32))]))
      exact tail5 _ _ X3 e3 N3
    · skip
      refine OGo.step (fun uK kK => XS.ifNo X3.here hx rfl (hb hby at_17) rfl ((if0 _ _).trans (feq hc17).1) kK) ?_
      show OGo p e below _ (T3.setTop (mkF m 20 #[.val (.int p0), .val (.int p1), .val (.int p2), .val (.int lo), .val (.int hi), .unset, .unset, .unset, .unset, .unset, .unset] []))
      refine OGo.step (fun uK kK => XS.iload X3.here hx rfl (hb hby at_20) rfl kK) ?_
      show OGo p e below _ (T3.setTop (mkF m 22 #[.val (.int p0), .val (.int p1), .val (.int p2), .val (.int lo), .val (.int hi), .unset, .unset, .unset, .unset, .unset, .unset] [(.int hi)]))
      obtain ⟨_, _, ⟨T4, Lq4, kq_4, nq_4⟩, -, X4, ⟨Lc4, hQ4, lq4, yq4, zq4⟩, st4⟩ := Jvm.LawKit.callS X3 hx (y := (⟨"com/example/coxswain/coxswain/api/ApiStatus", "mayHaveTakenEffect", "(I)Z"⟩ : MethodName)) hown (mvT hZ (hw _ (List.mem_of_getElem? (i := 7) rfl))) (mvT hZ (hw _ (List.mem_of_getElem? (i := 8) rfl))) (mvT hZ (hw _ (List.mem_of_getElem? (i := 9) rfl))) (mvT hZ (hw _ (List.mem_of_getElem? (i := 10) rfl))) (by decide) (backOf (W := 0) (rmmy l Z a0 hw [] hi  h0 n0 Z0 ) hZ (hw _ (List.mem_of_getElem? (i := 10) rfl)) (hw _ (List.mem_of_getElem? (i := 9) rfl)) (by decide) (by decide)) (g := (mkF m 22 #[.val (.int p0), .val (.int p1), .val (.int p2), .val (.int lo), .val (.int hi), .unset, .unset, .unset, .unset, .unset, .unset] [(.int hi)])) rfl (by rw [hml]; rfl) (argsL := [(.int hi)]) (rest := []) (lenOf pd0_1 rfl) rfl (by show 2 * 0 + _ ≤ _; exact Nat.le_of_eq rfl) (hb hby at_22) (fun _ _ => ⟨rfl, e3, (by decide : 0 + 0 ≤ _), (by decide : 0 + 0 ≤ _)⟩)
      dsimp only [Pt.U, Pt.locs, Pt.cells, Pt.slots] at X4 lq4 yq4 zq4 st4 hQ4
      subst lq4 yq4 zq4
      obtain ⟨rfl, Nq4, e4⟩ := hQ4
      have N4 := Fr.app N3 Nq4
      refine OGo.step (fun uK kK => st4 uK kK) ?_
      show OGo p e below _ (T4.setTop (mkF m 25 #[.val (.int p0), .val (.int p1), .val (.int p2), .val (.int lo), .val (.int hi), .unset, .unset, .unset, .unset, .unset, .unset] [(.int (nar .boolean (if hi < (500 : Int32) then (0 : Int32) else (1 : Int32))))]))
      have hc25 : ¬ ((nar .boolean (if hi < (500 : Int32) then (0 : Int32) else (1 : Int32))) = (0 : Int32)) := own_mono p0 p1 lo hi ev_lo ev_hi hc17
      refine OGo.step (fun uK kK => XS.ifNo X4.here hx rfl (hb hby at_25) rfl ((if0 _ _).trans (feq hc25).1) kK) ?_
      show OGo p e below _ (T4.setTop (mkF m 28 #[.val (.int p0), .val (.int p1), .val (.int p2), .val (.int lo), .val (.int hi), .unset, .unset, .unset, .unset, .unset, .unset] []))
      refine OGo.step (fun uK kK => XS.iconst X4.here hx rfl (hb hby at_28) kK) ?_
      show OGo p e below _ (T4.setTop (mkF m 29 #[.val (.int p0), .val (.int p1), .val (.int p2), .val (.int lo), .val (.int hi), .unset, .unset, .unset, .unset, .unset, .unset] [(.int (1 : Int32))]))
      refine OGo.step (fun uK kK => XS.goto X4.here hx rfl (pc0 := 29) (pc' := 33) rfl (hb hby at_29) (by decide) (by decide) kK) ?_
      show OGo p e below _ (T4.setTop (mkF m 33 #[.val (.int p0), .val (.int p1), .val (.int p2), .val (.int lo), .val (.int hi), .unset, .unset, .unset, .unset, .unset, .unset] [(.int (1 : Int32))]))
      exact tail5 _ _ X4 e4 N4
  intro T5 locs5 X5 e5 N5
  show OGo p e below _ (T5.setTop (mkF m 33 #[.val (.int p0), .val (.int p1), .val (.int p2), .val (.int lo), .val (.int hi), .unset, .unset, .unset, .unset, .unset, .unset] [(.int (1 : Int32))]))
  refine OGo.step (fun uK kK => XS.istore X5.here hx rfl (hb hby at_33) rfl (l' := #[.val (.int p0), .val (.int p1), .val (.int p2), .val (.int lo), .val (.int hi), .val (.int (1 : Int32)), .unset, .unset, .unset, .unset, .unset]) rfl kK) ?_
  show OGo p e below _ (T5.setTop (mkF m 35 #[.val (.int p0), .val (.int p1), .val (.int p2), .val (.int lo), .val (.int hi), .val (.int (1 : Int32)), .unset, .unset, .unset, .unset, .unset] []))
  refine OGo.step (fun uK kK => XS.sipush X5.here hx rfl (hb hby at_35) kK) ?_
  show OGo p e below _ (T5.setTop (mkF m 38 #[.val (.int p0), .val (.int p1), .val (.int p2), .val (.int lo), .val (.int hi), .val (.int (1 : Int32)), .unset, .unset, .unset, .unset, .unset] [(.int (499 : Int32))]))
  obtain ⟨_, _, ⟨T6, Lq6, kq_6, nq_6⟩, -, X6, ⟨Lc6, hQ6, lq6, yq6, zq6⟩, st6⟩ := Jvm.LawKit.callS X5 hx (y := (⟨"com/example/coxswain/coxswain/api/ApiStatus", "mayHaveTakenEffect", "(I)Z"⟩ : MethodName)) hown (mvT hZ (hw _ (List.mem_of_getElem? (i := 7) rfl))) (mvT hZ (hw _ (List.mem_of_getElem? (i := 8) rfl))) (mvT hZ (hw _ (List.mem_of_getElem? (i := 9) rfl))) (mvT hZ (hw _ (List.mem_of_getElem? (i := 10) rfl))) (by decide) (backOf (W := 0) (rmmy l Z a0 hw [] (499 : Int32)  h0 n0 Z0 ) hZ (hw _ (List.mem_of_getElem? (i := 10) rfl)) (hw _ (List.mem_of_getElem? (i := 9) rfl)) (by decide) (by decide)) (g := (mkF m 38 #[.val (.int p0), .val (.int p1), .val (.int p2), .val (.int lo), .val (.int hi), .val (.int (1 : Int32)), .unset, .unset, .unset, .unset, .unset] [(.int (499 : Int32))])) rfl (by rw [hml]; rfl) (argsL := [(.int (499 : Int32))]) (rest := []) (lenOf pd0_1 rfl) rfl (by show 2 * 0 + _ ≤ _; exact Nat.le_of_eq rfl) (hb hby at_38) (fun _ _ => ⟨rfl, e5, (by decide : 0 + 0 ≤ _), (by decide : 0 + 0 ≤ _)⟩)
  dsimp only [Pt.U, Pt.locs, Pt.cells, Pt.slots] at X6 lq6 yq6 zq6 st6 hQ6
  subst lq6 yq6 zq6
  obtain ⟨rfl, Nq6, e6⟩ := hQ6
  have N6 := Fr.app N5 Nq6
  refine OGo.step (fun uK kK => st6 uK kK) ?_
  show OGo p e below _ (T6.setTop (mkF m 41 #[.val (.int p0), .val (.int p1), .val (.int p2), .val (.int lo), .val (.int hi), .val (.int (1 : Int32)), .unset, .unset, .unset, .unset, .unset] [(.int (nar .boolean (if (499 : Int32) < (500 : Int32) then (0 : Int32) else (1 : Int32))))]))
  have hc41 : (nar .boolean (if (499 : Int32) < (500 : Int32) then (0 : Int32) else (1 : Int32))) = (0 : Int32) := by decide
  refine OGo.step (fun uK kK => XS.ifNo X6.here hx rfl (hb hby at_41) rfl ((if0 _ _).trans (teq hc41).2) kK) ?_
  show OGo p e below _ (T6.setTop (mkF m 44 #[.val (.int p0), .val (.int p1), .val (.int p2), .val (.int lo), .val (.int hi), .val (.int (1 : Int32)), .unset, .unset, .unset, .unset, .unset] []))
  refine OGo.step (fun uK kK => XS.iconst X6.here hx rfl (hb hby at_44) kK) ?_
  show OGo p e below _ (T6.setTop (mkF m 45 #[.val (.int p0), .val (.int p1), .val (.int p2), .val (.int lo), .val (.int hi), .val (.int (1 : Int32)), .unset, .unset, .unset, .unset, .unset] [(.int (1 : Int32))]))
  refine OGo.step (fun uK kK => XS.goto X6.here hx rfl (pc0 := 45) (pc' := 49) rfl (hb hby at_45) (by decide) (by decide) kK) ?_
  show OGo p e below _ (T6.setTop (mkF m 49 #[.val (.int p0), .val (.int p1), .val (.int p2), .val (.int lo), .val (.int hi), .val (.int (1 : Int32)), .unset, .unset, .unset, .unset, .unset] [(.int (1 : Int32))]))
  refine OGo.step (fun uK kK => XS.istore X6.here hx rfl (hb hby at_49) rfl (l' := #[.val (.int p0), .val (.int p1), .val (.int p2), .val (.int lo), .val (.int hi), .val (.int (1 : Int32)), .val (.int (1 : Int32)), .unset, .unset, .unset, .unset]) rfl kK) ?_
  show OGo p e below _ (T6.setTop (mkF m 51 #[.val (.int p0), .val (.int p1), .val (.int p2), .val (.int lo), .val (.int hi), .val (.int (1 : Int32)), .val (.int (1 : Int32)), .unset, .unset, .unset, .unset] []))
  refine OGo.step (fun uK kK => XS.sipush X6.here hx rfl (hb hby at_51) kK) ?_
  show OGo p e below _ (T6.setTop (mkF m 54 #[.val (.int p0), .val (.int p1), .val (.int p2), .val (.int lo), .val (.int hi), .val (.int (1 : Int32)), .val (.int (1 : Int32)), .unset, .unset, .unset, .unset] [(.int (500 : Int32))]))
  obtain ⟨_, _, ⟨T7, Lq7, kq_7, nq_7⟩, -, X7, ⟨Lc7, hQ7, lq7, yq7, zq7⟩, st7⟩ := Jvm.LawKit.callS X6 hx (y := (⟨"com/example/coxswain/coxswain/api/ApiStatus", "mayHaveTakenEffect", "(I)Z"⟩ : MethodName)) hown (mvT hZ (hw _ (List.mem_of_getElem? (i := 7) rfl))) (mvT hZ (hw _ (List.mem_of_getElem? (i := 8) rfl))) (mvT hZ (hw _ (List.mem_of_getElem? (i := 9) rfl))) (mvT hZ (hw _ (List.mem_of_getElem? (i := 10) rfl))) (by decide) (backOf (W := 0) (rmmy l Z a0 hw [] (500 : Int32)  h0 n0 Z0 ) hZ (hw _ (List.mem_of_getElem? (i := 10) rfl)) (hw _ (List.mem_of_getElem? (i := 9) rfl)) (by decide) (by decide)) (g := (mkF m 54 #[.val (.int p0), .val (.int p1), .val (.int p2), .val (.int lo), .val (.int hi), .val (.int (1 : Int32)), .val (.int (1 : Int32)), .unset, .unset, .unset, .unset] [(.int (500 : Int32))])) rfl (by rw [hml]; rfl) (argsL := [(.int (500 : Int32))]) (rest := []) (lenOf pd0_1 rfl) rfl (by show 2 * 0 + _ ≤ _; exact Nat.le_of_eq rfl) (hb hby at_54) (fun _ _ => ⟨rfl, e6, (by decide : 0 + 0 ≤ _), (by decide : 0 + 0 ≤ _)⟩)
  dsimp only [Pt.U, Pt.locs, Pt.cells, Pt.slots] at X7 lq7 yq7 zq7 st7 hQ7
  subst lq7 yq7 zq7
  obtain ⟨rfl, Nq7, e7⟩ := hQ7
  have N7 := Fr.app N6 Nq7
  refine OGo.step (fun uK kK => st7 uK kK) ?_
  show OGo p e below _ (T7.setTop (mkF m 57 #[.val (.int p0), .val (.int p1), .val (.int p2), .val (.int lo), .val (.int hi), .val (.int (1 : Int32)), .val (.int (1 : Int32)), .unset, .unset, .unset, .unset] [(.int (nar .boolean (if (500 : Int32) < (500 : Int32) then (0 : Int32) else (1 : Int32))))]))
  refine OGo.step (fun uK kK => XS.istore X7.here hx rfl (hb hby at_57) rfl (l' := #[.val (.int p0), .val (.int p1), .val (.int p2), .val (.int lo), .val (.int hi), .val (.int (1 : Int32)), .val (.int (1 : Int32)), .val (.int (nar .boolean (if (500 : Int32) < (500 : Int32) then (0 : Int32) else (1 : Int32)))), .unset, .unset, .unset]) rfl kK) ?_
  show OGo p e below _ (T7.setTop (mkF m 59 #[.val (.int p0), .val (.int p1), .val (.int p2), .val (.int lo), .val (.int hi), .val (.int (1 : Int32)), .val (.int (1 : Int32)), .val (.int (nar .boolean (if (500 : Int32) < (500 : Int32) then (0 : Int32) else (1 : Int32)))), .unset, .unset, .unset] []))
  refine OGo.step (fun uK kK => XS.iloadN X7.here hx rfl (hb hby at_59) rfl kK) ?_
  show OGo p e below _ (T7.setTop (mkF m 60 #[.val (.int p0), .val (.int p1), .val (.int p2), .val (.int lo), .val (.int hi), .val (.int (1 : Int32)), .val (.int (1 : Int32)), .val (.int (nar .boolean (if (500 : Int32) < (500 : Int32) then (0 : Int32) else (1 : Int32)))), .unset, .unset, .unset] [(.int p2)]))
  obtain ⟨_, _, ⟨T8, Lq8, kq_8, nq_8⟩, -, X8, ⟨Lc8, hQ8, lq8, yq8, zq8⟩, st8⟩ := Jvm.LawKit.callS X7 hx (y := (⟨"com/example/coxswain/coxswain/api/ApiStatusMayHaveTakenEffectPinLaw", "pick", "(I)Lcom/example/coxswain/coxswain/api/ApiStatus;"⟩ : MethodName)) hown (mvT hZ (hw _ (List.mem_of_getElem? (i := 11) rfl))) (mvT hZ (hw _ (List.mem_of_getElem? (i := 12) rfl))) (mvT hZ (hw _ (List.mem_of_getElem? (i := 13) rfl))) (mvT hZ (hw _ (List.mem_of_getElem? (i := 14) rfl))) (by decide) (backOf (W := 0) (rmpk l Z a0 hw [] p2 a_OK a_BAD_REQUEST a_UNAUTHORIZED a_FORBIDDEN a_NOT_FOUND a_METHOD_NOT_ALLOWED a_CONFLICT a_PAYLOAD_TOO_LARGE a_MISDIRECTED a_INTERNAL_ERROR a_UNAVAILABLE h0 n0 Z0 H_OK H_BAD_REQUEST H_UNAUTHORIZED H_FORBIDDEN H_NOT_FOUND H_METHOD_NOT_ALLOWED H_CONFLICT H_PAYLOAD_TOO_LARGE H_MISDIRECTED H_INTERNAL_ERROR H_UNAVAILABLE) hZ (hw _ (List.mem_of_getElem? (i := 14) rfl)) (hw _ (List.mem_of_getElem? (i := 13) rfl)) (by decide) (by decide)) (g := (mkF m 60 #[.val (.int p0), .val (.int p1), .val (.int p2), .val (.int lo), .val (.int hi), .val (.int (1 : Int32)), .val (.int (1 : Int32)), .val (.int (nar .boolean (if (500 : Int32) < (500 : Int32) then (0 : Int32) else (1 : Int32)))), .unset, .unset, .unset] [(.int p2)])) rfl (by rw [hml]; rfl) (argsL := [(.int p2)]) (rest := []) (lenOf pd0_2 rfl) rfl (by show 2 * 0 + _ ≤ _; exact Nat.le_of_eq rfl) (hb hby at_60) (fun _ _ => ⟨rfl, e7, (by decide : 0 + 0 ≤ _), (by decide : 0 + 0 ≤ _)⟩)
  dsimp only [Pt.U, Pt.locs, Pt.cells, Pt.slots] at X8 lq8 yq8 zq8 st8 hQ8
  subst lq8 yq8 zq8
  obtain ⟨r_, cd_, rfl, Nq8, e8, Er, Fc, Dr⟩ := hQ8
  have N8 := Fr.app N7 Nq8
  refine OGo.step (fun uK kK => st8 uK kK) ?_
  show OGo p e below _ (T8.setTop (mkF m 63 #[.val (.int p0), .val (.int p1), .val (.int p2), .val (.int lo), .val (.int hi), .val (.int (1 : Int32)), .val (.int (1 : Int32)), .val (.int (nar .boolean (if (500 : Int32) < (500 : Int32) then (0 : Int32) else (1 : Int32)))), .unset, .unset, .unset] [(.ref r_)]))
  refine OGo.step (fun uK kK => XS.astore X8.here hx rfl (hb hby at_63) rfl rfl (l' := #[.val (.int p0), .val (.int p1), .val (.int p2), .val (.int lo), .val (.int hi), .val (.int (1 : Int32)), .val (.int (1 : Int32)), .val (.int (nar .boolean (if (500 : Int32) < (500 : Int32) then (0 : Int32) else (1 : Int32)))), .val (.ref r_), .unset, .unset]) rfl kK) ?_
  show OGo p e below _ (T8.setTop (mkF m 65 #[.val (.int p0), .val (.int p1), .val (.int p2), .val (.int lo), .val (.int hi), .val (.int (1 : Int32)), .val (.int (1 : Int32)), .val (.int (nar .boolean (if (500 : Int32) < (500 : Int32) then (0 : Int32) else (1 : Int32)))), .val (.ref r_), .unset, .unset] []))
  rcases Dr with ⟨hr, hcd⟩ | ⟨hr, hcd⟩ | hlt
  · skip
    refine OGo.step (fun uK kK => XS.aload X8.here hx rfl (hb hby at_65) rfl rfl kK) ?_
    show OGo p e below _ (T8.setTop (mkF m 67 #[.val (.int p0), .val (.int p1), .val (.int p2), .val (.int lo), .val (.int hi), .val (.int (1 : Int32)), .val (.int (1 : Int32)), .val (.int (nar .boolean (if (500 : Int32) < (500 : Int32) then (0 : Int32) else (1 : Int32)))), .val (.ref r_), .unset, .unset] [(.ref r_)]))
    obtain ⟨T9, X9, e9, st9⟩ := getS2 X8 hx hZ hown (host := "") (Or.inl (hw _ (List.mem_of_getElem? (i := 18) rfl))) Via.refl e8 H_INTERNAL_ERROR.1 (g := (mkF m 67 #[.val (.int p0), .val (.int p1), .val (.int p2), .val (.int lo), .val (.int hi), .val (.int (1 : Int32)), .val (.int (1 : Int32)), .val (.int (nar .boolean (if (500 : Int32) < (500 : Int32) then (0 : Int32) else (1 : Int32)))), .val (.ref r_), .unset, .unset] [(.ref r_)])) rfl (hb hby at_67)
    refine OGo.step (fun uK kK => st9 uK kK) ?_
    show OGo p e below _ (T9.setTop (mkF m 70 #[.val (.int p0), .val (.int p1), .val (.int p2), .val (.int lo), .val (.int hi), .val (.int (1 : Int32)), .val (.int (1 : Int32)), .val (.int (nar .boolean (if (500 : Int32) < (500 : Int32) then (0 : Int32) else (1 : Int32)))), .val (.ref r_), .unset, .unset] [(.ref a_INTERNAL_ERROR), (.ref r_)]))
    have ha70 : r_ = a_INTERNAL_ERROR := hr
    refine OGo.step (fun uK kK => Jvm.RoadKit.acmp (g := (mkF m 70 #[.val (.int p0), .val (.int p1), .val (.int p2), .val (.int lo), .val (.int hi), .val (.int (1 : Int32)), .val (.int (1 : Int32)), .val (.int (nar .boolean (if (500 : Int32) < (500 : Int32) then (0 : Int32) else (1 : Int32)))), .val (.ref r_), .unset, .unset] [(.ref a_INTERNAL_ERROR), (.ref r_)])) X9 hx rfl rfl rfl (pc0 := 70) (pc' := 81) (same := true) rfl (hb hby at_70) rfl (decide_eq_true (congrArg Value.ref ha70)) (by decide) (by decide) kK) ?_
    show OGo p e below _ (T9.setTop (mkF m 81 #[.val (.int p0), .val (.int p1), .val (.int p2), .val (.int lo), .val (.int hi), .val (.int (1 : Int32)), .val (.int (1 : Int32)), .val (.int (nar .boolean (if (500 : Int32) < (500 : Int32) then (0 : Int32) else (1 : Int32)))), .val (.ref r_), .unset, .unset] []))
    refine OGo.step (fun uK kK => XS.iconst X9.here hx rfl (hb hby at_81) kK) ?_
    show OGo p e below _ (T9.setTop (mkF m 82 #[.val (.int p0), .val (.int p1), .val (.int p2), .val (.int lo), .val (.int hi), .val (.int (1 : Int32)), .val (.int (1 : Int32)), .val (.int (nar .boolean (if (500 : Int32) < (500 : Int32) then (0 : Int32) else (1 : Int32)))), .val (.ref r_), .unset, .unset] [(.int (1 : Int32))]))
    refine OGo.step (fun uK kK => XS.goto X9.here hx rfl (pc0 := 82) (pc' := 86) rfl (hb hby at_82) (by decide) (by decide) kK) ?_
    show OGo p e below _ (T9.setTop (mkF m 86 #[.val (.int p0), .val (.int p1), .val (.int p2), .val (.int lo), .val (.int hi), .val (.int (1 : Int32)), .val (.int (1 : Int32)), .val (.int (nar .boolean (if (500 : Int32) < (500 : Int32) then (0 : Int32) else (1 : Int32)))), .val (.ref r_), .unset, .unset] [(.int (1 : Int32))]))
    refine OGo.step (fun uK kK => XS.istore X9.here hx rfl (hb hby at_86) rfl (l' := #[.val (.int p0), .val (.int p1), .val (.int p2), .val (.int lo), .val (.int hi), .val (.int (1 : Int32)), .val (.int (1 : Int32)), .val (.int (nar .boolean (if (500 : Int32) < (500 : Int32) then (0 : Int32) else (1 : Int32)))), .val (.ref r_), .val (.int (1 : Int32)), .unset]) rfl kK) ?_
    show OGo p e below _ (T9.setTop (mkF m 88 #[.val (.int p0), .val (.int p1), .val (.int p2), .val (.int lo), .val (.int hi), .val (.int (1 : Int32)), .val (.int (1 : Int32)), .val (.int (nar .boolean (if (500 : Int32) < (500 : Int32) then (0 : Int32) else (1 : Int32)))), .val (.ref r_), .val (.int (1 : Int32)), .unset] []))
    refine OGo.step (fun uK kK => XS.aload X9.here hx rfl (hb hby at_88) rfl rfl kK) ?_
    show OGo p e below _ (T9.setTop (mkF m 90 #[.val (.int p0), .val (.int p1), .val (.int p2), .val (.int lo), .val (.int hi), .val (.int (1 : Int32)), .val (.int (1 : Int32)), .val (.int (nar .boolean (if (500 : Int32) < (500 : Int32) then (0 : Int32) else (1 : Int32)))), .val (.ref r_), .val (.int (1 : Int32)), .unset] [(.ref r_)]))
    obtain ⟨cq10, kq10, q10a, q10b, q10c⟩ := isOf hZ e9 Er
    obtain ⟨_, _, ⟨T10, Lq10, kq_10, nq_10⟩, -, X10, ⟨Lc10, hQ10, lq10, yq10, zq10⟩, st10⟩ := X9.virtualBack hx (y := (⟨"com/example/coxswain/coxswain/api/ApiStatus", "code", "()I"⟩ : MethodName)) (z := (⟨"com/example/coxswain/coxswain/api/ApiStatus", "code", "()I"⟩ : MethodName)) hown (mvT hZ (hw _ (List.mem_of_getElem? (i := 22) rfl))) (mvT hZ (hw _ (List.mem_of_getElem? (i := 23) rfl))) (notFace_of_selects (args := #[]) (mvT hZ (hw _ (List.mem_of_getElem? (i := 25) rfl)))) (mvT hZ (hw _ (List.mem_of_getElem? (i := 25) rfl))) (mvT hZ (hw _ (List.mem_of_getElem? (i := 24) rfl))) (by decide) (backOf (W := 0) (rmcd l Z a0 hw [] r_ cd_ h0 n0 Z0 Fc) hZ (hw _ (List.mem_of_getElem? (i := 26) rfl)) (hw _ (List.mem_of_getElem? (i := 9) rfl)) (by decide) (by decide)) q10a q10c (g := (mkF m 90 #[.val (.int p0), .val (.int p1), .val (.int p2), .val (.int lo), .val (.int hi), .val (.int (1 : Int32)), .val (.int (1 : Int32)), .val (.int (nar .boolean (if (500 : Int32) < (500 : Int32) then (0 : Int32) else (1 : Int32)))), .val (.ref r_), .val (.int (1 : Int32)), .unset] [(.ref r_)])) rfl (by rw [hml]; rfl) (Steps.refl _) (argsL := []) (rest := []) (lenOf pd0_3 rfl) rfl (by show 2 * 0 + _ ≤ _; exact Nat.le_of_eq rfl) (hb hby at_90) (fun _ _ => ⟨rfl, e9, (by decide : 0 + 0 ≤ _), (by decide : 0 + 0 ≤ _)⟩)
    dsimp only [Pt.U, Pt.locs, Pt.cells, Pt.slots] at X10 lq10 yq10 zq10 st10 hQ10
    subst lq10 yq10 zq10
    obtain ⟨rfl, Nq10, e10⟩ := hQ10
    have N10 := Fr.app N8 Nq10
    refine OGo.steps st10 ?_
    show OGo p e below _ (T10.setTop (mkF m 93 #[.val (.int p0), .val (.int p1), .val (.int p2), .val (.int lo), .val (.int hi), .val (.int (1 : Int32)), .val (.int (1 : Int32)), .val (.int (nar .boolean (if (500 : Int32) < (500 : Int32) then (0 : Int32) else (1 : Int32)))), .val (.ref r_), .val (.int (1 : Int32)), .unset] [(.int cd_)]))
    obtain ⟨_, _, ⟨T11, Lq11, kq_11, nq_11⟩, -, X11, ⟨Lc11, hQ11, lq11, yq11, zq11⟩, st11⟩ := Jvm.LawKit.callS X10 hx (y := (⟨"com/example/coxswain/coxswain/api/ApiStatus", "mayHaveTakenEffect", "(I)Z"⟩ : MethodName)) hown (mvT hZ (hw _ (List.mem_of_getElem? (i := 7) rfl))) (mvT hZ (hw _ (List.mem_of_getElem? (i := 8) rfl))) (mvT hZ (hw _ (List.mem_of_getElem? (i := 9) rfl))) (mvT hZ (hw _ (List.mem_of_getElem? (i := 10) rfl))) (by decide) (backOf (W := 0) (rmmy l Z a0 hw [] cd_  h0 n0 Z0 ) hZ (hw _ (List.mem_of_getElem? (i := 10) rfl)) (hw _ (List.mem_of_getElem? (i := 9) rfl)) (by decide) (by decide)) (g := (mkF m 93 #[.val (.int p0), .val (.int p1), .val (.int p2), .val (.int lo), .val (.int hi), .val (.int (1 : Int32)), .val (.int (1 : Int32)), .val (.int (nar .boolean (if (500 : Int32) < (500 : Int32) then (0 : Int32) else (1 : Int32)))), .val (.ref r_), .val (.int (1 : Int32)), .unset] [(.int cd_)])) rfl (by rw [hml]; rfl) (argsL := [(.int cd_)]) (rest := []) (lenOf pd0_1 rfl) rfl (by show 2 * 0 + _ ≤ _; exact Nat.le_of_eq rfl) (hb hby at_93) (fun _ _ => ⟨rfl, e10, (by decide : 0 + 0 ≤ _), (by decide : 0 + 0 ≤ _)⟩)
    dsimp only [Pt.U, Pt.locs, Pt.cells, Pt.slots] at X11 lq11 yq11 zq11 st11 hQ11
    subst lq11 yq11 zq11
    obtain ⟨rfl, Nq11, e11⟩ := hQ11
    have N11 := Fr.app N10 Nq11
    refine OGo.step (fun uK kK => st11 uK kK) ?_
    show OGo p e below _ (T11.setTop (mkF m 96 #[.val (.int p0), .val (.int p1), .val (.int p2), .val (.int lo), .val (.int hi), .val (.int (1 : Int32)), .val (.int (1 : Int32)), .val (.int (nar .boolean (if (500 : Int32) < (500 : Int32) then (0 : Int32) else (1 : Int32)))), .val (.ref r_), .val (.int (1 : Int32)), .unset] [(.int (nar .boolean (if cd_ < (500 : Int32) then (0 : Int32) else (1 : Int32))))]))
    refine OGo.step (fun uK kK => XS.iload X11.here hx rfl (hb hby at_96) rfl kK) ?_
    show OGo p e below _ (T11.setTop (mkF m 98 #[.val (.int p0), .val (.int p1), .val (.int p2), .val (.int lo), .val (.int hi), .val (.int (1 : Int32)), .val (.int (1 : Int32)), .val (.int (nar .boolean (if (500 : Int32) < (500 : Int32) then (0 : Int32) else (1 : Int32)))), .val (.ref r_), .val (.int (1 : Int32)), .unset] [(.int (1 : Int32)), (.int (nar .boolean (if cd_ < (500 : Int32) then (0 : Int32) else (1 : Int32))))]))
    have hc98 : (nar .boolean (if cd_ < (500 : Int32) then (0 : Int32) else (1 : Int32))) = (1 : Int32) := by rw [hcd]; decide
    refine OGo.step (fun uK kK => XS.icmpNo X11.here hx rfl (hb hby at_98) rfl (teq hc98).2 kK) ?_
    show OGo p e below _ (T11.setTop (mkF m 101 #[.val (.int p0), .val (.int p1), .val (.int p2), .val (.int lo), .val (.int hi), .val (.int (1 : Int32)), .val (.int (1 : Int32)), .val (.int (nar .boolean (if (500 : Int32) < (500 : Int32) then (0 : Int32) else (1 : Int32)))), .val (.ref r_), .val (.int (1 : Int32)), .unset] []))
    refine OGo.step (fun uK kK => XS.iconst X11.here hx rfl (hb hby at_101) kK) ?_
    show OGo p e below _ (T11.setTop (mkF m 102 #[.val (.int p0), .val (.int p1), .val (.int p2), .val (.int lo), .val (.int hi), .val (.int (1 : Int32)), .val (.int (1 : Int32)), .val (.int (nar .boolean (if (500 : Int32) < (500 : Int32) then (0 : Int32) else (1 : Int32)))), .val (.ref r_), .val (.int (1 : Int32)), .unset] [(.int (1 : Int32))]))
    refine OGo.step (fun uK kK => XS.goto X11.here hx rfl (pc0 := 102) (pc' := 106) rfl (hb hby at_102) (by decide) (by decide) kK) ?_
    show OGo p e below _ (T11.setTop (mkF m 106 #[.val (.int p0), .val (.int p1), .val (.int p2), .val (.int lo), .val (.int hi), .val (.int (1 : Int32)), .val (.int (1 : Int32)), .val (.int (nar .boolean (if (500 : Int32) < (500 : Int32) then (0 : Int32) else (1 : Int32)))), .val (.ref r_), .val (.int (1 : Int32)), .unset] [(.int (1 : Int32))]))
    refine OGo.step (fun uK kK => XS.istore X11.here hx rfl (hb hby at_106) rfl (l' := #[.val (.int p0), .val (.int p1), .val (.int p2), .val (.int lo), .val (.int hi), .val (.int (1 : Int32)), .val (.int (1 : Int32)), .val (.int (nar .boolean (if (500 : Int32) < (500 : Int32) then (0 : Int32) else (1 : Int32)))), .val (.ref r_), .val (.int (1 : Int32)), .val (.int (1 : Int32))]) rfl kK) ?_
    show OGo p e below _ (T11.setTop (mkF m 108 #[.val (.int p0), .val (.int p1), .val (.int p2), .val (.int lo), .val (.int hi), .val (.int (1 : Int32)), .val (.int (1 : Int32)), .val (.int (nar .boolean (if (500 : Int32) < (500 : Int32) then (0 : Int32) else (1 : Int32)))), .val (.ref r_), .val (.int (1 : Int32)), .val (.int (1 : Int32))] []))
    refine OGo.step (fun uK kK => XS.iload X11.here hx rfl (hb hby at_108) rfl kK) ?_
    show OGo p e below _ (T11.setTop (mkF m 110 #[.val (.int p0), .val (.int p1), .val (.int p2), .val (.int lo), .val (.int hi), .val (.int (1 : Int32)), .val (.int (1 : Int32)), .val (.int (nar .boolean (if (500 : Int32) < (500 : Int32) then (0 : Int32) else (1 : Int32)))), .val (.ref r_), .val (.int (1 : Int32)), .val (.int (1 : Int32))] [(.int (1 : Int32))]))
    have hc110 : ¬ ((1 : Int32) = (0 : Int32)) := by decide
    refine OGo.step (fun uK kK => XS.ifNo X11.here hx rfl (hb hby at_110) rfl ((if0 _ _).trans (feq hc110).1) kK) ?_
    show OGo p e below _ (T11.setTop (mkF m 113 #[.val (.int p0), .val (.int p1), .val (.int p2), .val (.int lo), .val (.int hi), .val (.int (1 : Int32)), .val (.int (1 : Int32)), .val (.int (nar .boolean (if (500 : Int32) < (500 : Int32) then (0 : Int32) else (1 : Int32)))), .val (.ref r_), .val (.int (1 : Int32)), .val (.int (1 : Int32))] []))
    refine OGo.step (fun uK kK => XS.iload X11.here hx rfl (hb hby at_113) rfl kK) ?_
    show OGo p e below _ (T11.setTop (mkF m 115 #[.val (.int p0), .val (.int p1), .val (.int p2), .val (.int lo), .val (.int hi), .val (.int (1 : Int32)), .val (.int (1 : Int32)), .val (.int (nar .boolean (if (500 : Int32) < (500 : Int32) then (0 : Int32) else (1 : Int32)))), .val (.ref r_), .val (.int (1 : Int32)), .val (.int (1 : Int32))] [(.int (1 : Int32))]))
    have hc115 : ¬ ((1 : Int32) = (0 : Int32)) := by decide
    refine OGo.step (fun uK kK => XS.ifNo X11.here hx rfl (hb hby at_115) rfl ((if0 _ _).trans (feq hc115).1) kK) ?_
    show OGo p e below _ (T11.setTop (mkF m 118 #[.val (.int p0), .val (.int p1), .val (.int p2), .val (.int lo), .val (.int hi), .val (.int (1 : Int32)), .val (.int (1 : Int32)), .val (.int (nar .boolean (if (500 : Int32) < (500 : Int32) then (0 : Int32) else (1 : Int32)))), .val (.ref r_), .val (.int (1 : Int32)), .val (.int (1 : Int32))] []))
    refine OGo.step (fun uK kK => XS.iload X11.here hx rfl (hb hby at_118) rfl kK) ?_
    show OGo p e below _ (T11.setTop (mkF m 120 #[.val (.int p0), .val (.int p1), .val (.int p2), .val (.int lo), .val (.int hi), .val (.int (1 : Int32)), .val (.int (1 : Int32)), .val (.int (nar .boolean (if (500 : Int32) < (500 : Int32) then (0 : Int32) else (1 : Int32)))), .val (.ref r_), .val (.int (1 : Int32)), .val (.int (1 : Int32))] [(.int (nar .boolean (if (500 : Int32) < (500 : Int32) then (0 : Int32) else (1 : Int32))))]))
    have hc120 : ¬ ((nar .boolean (if (500 : Int32) < (500 : Int32) then (0 : Int32) else (1 : Int32))) = (0 : Int32)) := by decide
    refine OGo.step (fun uK kK => XS.ifNo X11.here hx rfl (hb hby at_120) rfl ((if0 _ _).trans (feq hc120).1) kK) ?_
    show OGo p e below _ (T11.setTop (mkF m 123 #[.val (.int p0), .val (.int p1), .val (.int p2), .val (.int lo), .val (.int hi), .val (.int (1 : Int32)), .val (.int (1 : Int32)), .val (.int (nar .boolean (if (500 : Int32) < (500 : Int32) then (0 : Int32) else (1 : Int32)))), .val (.ref r_), .val (.int (1 : Int32)), .val (.int (1 : Int32))] []))
    refine OGo.step (fun uK kK => XS.iload X11.here hx rfl (hb hby at_123) rfl kK) ?_
    show OGo p e below _ (T11.setTop (mkF m 125 #[.val (.int p0), .val (.int p1), .val (.int p2), .val (.int lo), .val (.int hi), .val (.int (1 : Int32)), .val (.int (1 : Int32)), .val (.int (nar .boolean (if (500 : Int32) < (500 : Int32) then (0 : Int32) else (1 : Int32)))), .val (.ref r_), .val (.int (1 : Int32)), .val (.int (1 : Int32))] [(.int (1 : Int32))]))
    have hc125 : ¬ ((1 : Int32) = (0 : Int32)) := by decide
    refine OGo.step (fun uK kK => XS.ifNo X11.here hx rfl (hb hby at_125) rfl ((if0 _ _).trans (feq hc125).1) kK) ?_
    show OGo p e below _ (T11.setTop (mkF m 128 #[.val (.int p0), .val (.int p1), .val (.int p2), .val (.int lo), .val (.int hi), .val (.int (1 : Int32)), .val (.int (1 : Int32)), .val (.int (nar .boolean (if (500 : Int32) < (500 : Int32) then (0 : Int32) else (1 : Int32)))), .val (.ref r_), .val (.int (1 : Int32)), .val (.int (1 : Int32))] []))
    refine OGo.step (fun uK kK => XS.iconst X11.here hx rfl (hb hby at_128) kK) ?_
    show OGo p e below _ (T11.setTop (mkF m 129 #[.val (.int p0), .val (.int p1), .val (.int p2), .val (.int lo), .val (.int hi), .val (.int (1 : Int32)), .val (.int (1 : Int32)), .val (.int (nar .boolean (if (500 : Int32) < (500 : Int32) then (0 : Int32) else (1 : Int32)))), .val (.ref r_), .val (.int (1 : Int32)), .val (.int (1 : Int32))] [(.int (1 : Int32))]))
    refine OGo.step (fun uK kK => XS.goto X11.here hx rfl (pc0 := 129) (pc' := 133) rfl (hb hby at_129) (by decide) (by decide) kK) ?_
    show OGo p e below _ (T11.setTop (mkF m 133 #[.val (.int p0), .val (.int p1), .val (.int p2), .val (.int lo), .val (.int hi), .val (.int (1 : Int32)), .val (.int (1 : Int32)), .val (.int (nar .boolean (if (500 : Int32) < (500 : Int32) then (0 : Int32) else (1 : Int32)))), .val (.ref r_), .val (.int (1 : Int32)), .val (.int (1 : Int32))] [(.int (1 : Int32))]))
    exact OGo.retN X11 hx Bd.notSynchronized (t := .boolean) Bd.returns (by simp) (hb hby at_133) (by decide) (by decide) (by show Q0 Z p0 p1 p2 a_OK a_BAD_REQUEST a_UNAUTHORIZED a_FORBIDDEN a_NOT_FOUND a_METHOD_NOT_ALLOWED a_CONFLICT a_PAYLOAD_TOO_LARGE a_MISDIRECTED a_INTERNAL_ERROR a_UNAVAILABLE h0 n0 _ T11.heap _; rw [e11]; exact ⟨rfl, N11⟩)
  · skip
    refine OGo.step (fun uK kK => XS.aload X8.here hx rfl (hb hby at_65) rfl rfl kK) ?_
    show OGo p e below _ (T8.setTop (mkF m 67 #[.val (.int p0), .val (.int p1), .val (.int p2), .val (.int lo), .val (.int hi), .val (.int (1 : Int32)), .val (.int (1 : Int32)), .val (.int (nar .boolean (if (500 : Int32) < (500 : Int32) then (0 : Int32) else (1 : Int32)))), .val (.ref r_), .unset, .unset] [(.ref r_)]))
    obtain ⟨T12, X12, e12, st12⟩ := getS2 X8 hx hZ hown (host := "") (Or.inl (hw _ (List.mem_of_getElem? (i := 18) rfl))) Via.refl e8 H_INTERNAL_ERROR.1 (g := (mkF m 67 #[.val (.int p0), .val (.int p1), .val (.int p2), .val (.int lo), .val (.int hi), .val (.int (1 : Int32)), .val (.int (1 : Int32)), .val (.int (nar .boolean (if (500 : Int32) < (500 : Int32) then (0 : Int32) else (1 : Int32)))), .val (.ref r_), .unset, .unset] [(.ref r_)])) rfl (hb hby at_67)
    refine OGo.step (fun uK kK => st12 uK kK) ?_
    show OGo p e below _ (T12.setTop (mkF m 70 #[.val (.int p0), .val (.int p1), .val (.int p2), .val (.int lo), .val (.int hi), .val (.int (1 : Int32)), .val (.int (1 : Int32)), .val (.int (nar .boolean (if (500 : Int32) < (500 : Int32) then (0 : Int32) else (1 : Int32)))), .val (.ref r_), .unset, .unset] [(.ref a_INTERNAL_ERROR), (.ref r_)]))
    have ha70 : ¬ (r_ = a_INTERNAL_ERROR) := Fld.ne Fc H_INTERNAL_ERROR.2.2 (by rw [hcd]; decide)
    refine OGo.step (fun uK kK => Jvm.RoadKit.acmp (g := (mkF m 70 #[.val (.int p0), .val (.int p1), .val (.int p2), .val (.int lo), .val (.int hi), .val (.int (1 : Int32)), .val (.int (1 : Int32)), .val (.int (nar .boolean (if (500 : Int32) < (500 : Int32) then (0 : Int32) else (1 : Int32)))), .val (.ref r_), .unset, .unset] [(.ref a_INTERNAL_ERROR), (.ref r_)])) X12 hx rfl rfl rfl (pc0 := 70) (pc' := 73) (same := false) rfl (hb hby at_70) rfl (decide_eq_false fun q => ha70 (Value.ref.inj q)) (by decide) (by decide) kK) ?_
    show OGo p e below _ (T12.setTop (mkF m 73 #[.val (.int p0), .val (.int p1), .val (.int p2), .val (.int lo), .val (.int hi), .val (.int (1 : Int32)), .val (.int (1 : Int32)), .val (.int (nar .boolean (if (500 : Int32) < (500 : Int32) then (0 : Int32) else (1 : Int32)))), .val (.ref r_), .unset, .unset] []))
    refine OGo.step (fun uK kK => XS.aload X12.here hx rfl (hb hby at_73) rfl rfl kK) ?_
    show OGo p e below _ (T12.setTop (mkF m 75 #[.val (.int p0), .val (.int p1), .val (.int p2), .val (.int lo), .val (.int hi), .val (.int (1 : Int32)), .val (.int (1 : Int32)), .val (.int (nar .boolean (if (500 : Int32) < (500 : Int32) then (0 : Int32) else (1 : Int32)))), .val (.ref r_), .unset, .unset] [(.ref r_)]))
    obtain ⟨T13, X13, e13, st13⟩ := getS2 X12 hx hZ hown (host := "") (Or.inl (hw _ (List.mem_of_getElem? (i := 20) rfl))) Via.refl e12 H_UNAVAILABLE.1 (g := (mkF m 75 #[.val (.int p0), .val (.int p1), .val (.int p2), .val (.int lo), .val (.int hi), .val (.int (1 : Int32)), .val (.int (1 : Int32)), .val (.int (nar .boolean (if (500 : Int32) < (500 : Int32) then (0 : Int32) else (1 : Int32)))), .val (.ref r_), .unset, .unset] [(.ref r_)])) rfl (hb hby at_75)
    refine OGo.step (fun uK kK => st13 uK kK) ?_
    show OGo p e below _ (T13.setTop (mkF m 78 #[.val (.int p0), .val (.int p1), .val (.int p2), .val (.int lo), .val (.int hi), .val (.int (1 : Int32)), .val (.int (1 : Int32)), .val (.int (nar .boolean (if (500 : Int32) < (500 : Int32) then (0 : Int32) else (1 : Int32)))), .val (.ref r_), .unset, .unset] [(.ref a_UNAVAILABLE), (.ref r_)]))
    have ha78 : r_ = a_UNAVAILABLE := hr
    refine OGo.step (fun uK kK => Jvm.RoadKit.acmp (g := (mkF m 78 #[.val (.int p0), .val (.int p1), .val (.int p2), .val (.int lo), .val (.int hi), .val (.int (1 : Int32)), .val (.int (1 : Int32)), .val (.int (nar .boolean (if (500 : Int32) < (500 : Int32) then (0 : Int32) else (1 : Int32)))), .val (.ref r_), .unset, .unset] [(.ref a_UNAVAILABLE), (.ref r_)])) X13 hx rfl rfl rfl (pc0 := 78) (pc' := 81) (same := true) rfl (hb hby at_78) rfl (decide_eq_true (congrArg Value.ref ha78)) (by decide) (by decide) kK) ?_
    show OGo p e below _ (T13.setTop (mkF m 81 #[.val (.int p0), .val (.int p1), .val (.int p2), .val (.int lo), .val (.int hi), .val (.int (1 : Int32)), .val (.int (1 : Int32)), .val (.int (nar .boolean (if (500 : Int32) < (500 : Int32) then (0 : Int32) else (1 : Int32)))), .val (.ref r_), .unset, .unset] []))
    refine OGo.step (fun uK kK => XS.iconst X13.here hx rfl (hb hby at_81) kK) ?_
    show OGo p e below _ (T13.setTop (mkF m 82 #[.val (.int p0), .val (.int p1), .val (.int p2), .val (.int lo), .val (.int hi), .val (.int (1 : Int32)), .val (.int (1 : Int32)), .val (.int (nar .boolean (if (500 : Int32) < (500 : Int32) then (0 : Int32) else (1 : Int32)))), .val (.ref r_), .unset, .unset] [(.int (1 : Int32))]))
    refine OGo.step (fun uK kK => XS.goto X13.here hx rfl (pc0 := 82) (pc' := 86) rfl (hb hby at_82) (by decide) (by decide) kK) ?_
    show OGo p e below _ (T13.setTop (mkF m 86 #[.val (.int p0), .val (.int p1), .val (.int p2), .val (.int lo), .val (.int hi), .val (.int (1 : Int32)), .val (.int (1 : Int32)), .val (.int (nar .boolean (if (500 : Int32) < (500 : Int32) then (0 : Int32) else (1 : Int32)))), .val (.ref r_), .unset, .unset] [(.int (1 : Int32))]))
    refine OGo.step (fun uK kK => XS.istore X13.here hx rfl (hb hby at_86) rfl (l' := #[.val (.int p0), .val (.int p1), .val (.int p2), .val (.int lo), .val (.int hi), .val (.int (1 : Int32)), .val (.int (1 : Int32)), .val (.int (nar .boolean (if (500 : Int32) < (500 : Int32) then (0 : Int32) else (1 : Int32)))), .val (.ref r_), .val (.int (1 : Int32)), .unset]) rfl kK) ?_
    show OGo p e below _ (T13.setTop (mkF m 88 #[.val (.int p0), .val (.int p1), .val (.int p2), .val (.int lo), .val (.int hi), .val (.int (1 : Int32)), .val (.int (1 : Int32)), .val (.int (nar .boolean (if (500 : Int32) < (500 : Int32) then (0 : Int32) else (1 : Int32)))), .val (.ref r_), .val (.int (1 : Int32)), .unset] []))
    refine OGo.step (fun uK kK => XS.aload X13.here hx rfl (hb hby at_88) rfl rfl kK) ?_
    show OGo p e below _ (T13.setTop (mkF m 90 #[.val (.int p0), .val (.int p1), .val (.int p2), .val (.int lo), .val (.int hi), .val (.int (1 : Int32)), .val (.int (1 : Int32)), .val (.int (nar .boolean (if (500 : Int32) < (500 : Int32) then (0 : Int32) else (1 : Int32)))), .val (.ref r_), .val (.int (1 : Int32)), .unset] [(.ref r_)]))
    obtain ⟨cq14, kq14, q14a, q14b, q14c⟩ := isOf hZ e13 Er
    obtain ⟨_, _, ⟨T14, Lq14, kq_14, nq_14⟩, -, X14, ⟨Lc14, hQ14, lq14, yq14, zq14⟩, st14⟩ := X13.virtualBack hx (y := (⟨"com/example/coxswain/coxswain/api/ApiStatus", "code", "()I"⟩ : MethodName)) (z := (⟨"com/example/coxswain/coxswain/api/ApiStatus", "code", "()I"⟩ : MethodName)) hown (mvT hZ (hw _ (List.mem_of_getElem? (i := 22) rfl))) (mvT hZ (hw _ (List.mem_of_getElem? (i := 23) rfl))) (notFace_of_selects (args := #[]) (mvT hZ (hw _ (List.mem_of_getElem? (i := 25) rfl)))) (mvT hZ (hw _ (List.mem_of_getElem? (i := 25) rfl))) (mvT hZ (hw _ (List.mem_of_getElem? (i := 24) rfl))) (by decide) (backOf (W := 0) (rmcd l Z a0 hw [] r_ cd_ h0 n0 Z0 Fc) hZ (hw _ (List.mem_of_getElem? (i := 26) rfl)) (hw _ (List.mem_of_getElem? (i := 9) rfl)) (by decide) (by decide)) q14a q14c (g := (mkF m 90 #[.val (.int p0), .val (.int p1), .val (.int p2), .val (.int lo), .val (.int hi), .val (.int (1 : Int32)), .val (.int (1 : Int32)), .val (.int (nar .boolean (if (500 : Int32) < (500 : Int32) then (0 : Int32) else (1 : Int32)))), .val (.ref r_), .val (.int (1 : Int32)), .unset] [(.ref r_)])) rfl (by rw [hml]; rfl) (Steps.refl _) (argsL := []) (rest := []) (lenOf pd0_3 rfl) rfl (by show 2 * 0 + _ ≤ _; exact Nat.le_of_eq rfl) (hb hby at_90) (fun _ _ => ⟨rfl, e13, (by decide : 0 + 0 ≤ _), (by decide : 0 + 0 ≤ _)⟩)
    dsimp only [Pt.U, Pt.locs, Pt.cells, Pt.slots] at X14 lq14 yq14 zq14 st14 hQ14
    subst lq14 yq14 zq14
    obtain ⟨rfl, Nq14, e14⟩ := hQ14
    have N14 := Fr.app N8 Nq14
    refine OGo.steps st14 ?_
    show OGo p e below _ (T14.setTop (mkF m 93 #[.val (.int p0), .val (.int p1), .val (.int p2), .val (.int lo), .val (.int hi), .val (.int (1 : Int32)), .val (.int (1 : Int32)), .val (.int (nar .boolean (if (500 : Int32) < (500 : Int32) then (0 : Int32) else (1 : Int32)))), .val (.ref r_), .val (.int (1 : Int32)), .unset] [(.int cd_)]))
    obtain ⟨_, _, ⟨T15, Lq15, kq_15, nq_15⟩, -, X15, ⟨Lc15, hQ15, lq15, yq15, zq15⟩, st15⟩ := Jvm.LawKit.callS X14 hx (y := (⟨"com/example/coxswain/coxswain/api/ApiStatus", "mayHaveTakenEffect", "(I)Z"⟩ : MethodName)) hown (mvT hZ (hw _ (List.mem_of_getElem? (i := 7) rfl))) (mvT hZ (hw _ (List.mem_of_getElem? (i := 8) rfl))) (mvT hZ (hw _ (List.mem_of_getElem? (i := 9) rfl))) (mvT hZ (hw _ (List.mem_of_getElem? (i := 10) rfl))) (by decide) (backOf (W := 0) (rmmy l Z a0 hw [] cd_  h0 n0 Z0 ) hZ (hw _ (List.mem_of_getElem? (i := 10) rfl)) (hw _ (List.mem_of_getElem? (i := 9) rfl)) (by decide) (by decide)) (g := (mkF m 93 #[.val (.int p0), .val (.int p1), .val (.int p2), .val (.int lo), .val (.int hi), .val (.int (1 : Int32)), .val (.int (1 : Int32)), .val (.int (nar .boolean (if (500 : Int32) < (500 : Int32) then (0 : Int32) else (1 : Int32)))), .val (.ref r_), .val (.int (1 : Int32)), .unset] [(.int cd_)])) rfl (by rw [hml]; rfl) (argsL := [(.int cd_)]) (rest := []) (lenOf pd0_1 rfl) rfl (by show 2 * 0 + _ ≤ _; exact Nat.le_of_eq rfl) (hb hby at_93) (fun _ _ => ⟨rfl, e14, (by decide : 0 + 0 ≤ _), (by decide : 0 + 0 ≤ _)⟩)
    dsimp only [Pt.U, Pt.locs, Pt.cells, Pt.slots] at X15 lq15 yq15 zq15 st15 hQ15
    subst lq15 yq15 zq15
    obtain ⟨rfl, Nq15, e15⟩ := hQ15
    have N15 := Fr.app N14 Nq15
    refine OGo.step (fun uK kK => st15 uK kK) ?_
    show OGo p e below _ (T15.setTop (mkF m 96 #[.val (.int p0), .val (.int p1), .val (.int p2), .val (.int lo), .val (.int hi), .val (.int (1 : Int32)), .val (.int (1 : Int32)), .val (.int (nar .boolean (if (500 : Int32) < (500 : Int32) then (0 : Int32) else (1 : Int32)))), .val (.ref r_), .val (.int (1 : Int32)), .unset] [(.int (nar .boolean (if cd_ < (500 : Int32) then (0 : Int32) else (1 : Int32))))]))
    refine OGo.step (fun uK kK => XS.iload X15.here hx rfl (hb hby at_96) rfl kK) ?_
    show OGo p e below _ (T15.setTop (mkF m 98 #[.val (.int p0), .val (.int p1), .val (.int p2), .val (.int lo), .val (.int hi), .val (.int (1 : Int32)), .val (.int (1 : Int32)), .val (.int (nar .boolean (if (500 : Int32) < (500 : Int32) then (0 : Int32) else (1 : Int32)))), .val (.ref r_), .val (.int (1 : Int32)), .unset] [(.int (1 : Int32)), (.int (nar .boolean (if cd_ < (500 : Int32) then (0 : Int32) else (1 : Int32))))]))
    have hc98 : (nar .boolean (if cd_ < (500 : Int32) then (0 : Int32) else (1 : Int32))) = (1 : Int32) := by rw [hcd]; decide
    refine OGo.step (fun uK kK => XS.icmpNo X15.here hx rfl (hb hby at_98) rfl (teq hc98).2 kK) ?_
    show OGo p e below _ (T15.setTop (mkF m 101 #[.val (.int p0), .val (.int p1), .val (.int p2), .val (.int lo), .val (.int hi), .val (.int (1 : Int32)), .val (.int (1 : Int32)), .val (.int (nar .boolean (if (500 : Int32) < (500 : Int32) then (0 : Int32) else (1 : Int32)))), .val (.ref r_), .val (.int (1 : Int32)), .unset] []))
    refine OGo.step (fun uK kK => XS.iconst X15.here hx rfl (hb hby at_101) kK) ?_
    show OGo p e below _ (T15.setTop (mkF m 102 #[.val (.int p0), .val (.int p1), .val (.int p2), .val (.int lo), .val (.int hi), .val (.int (1 : Int32)), .val (.int (1 : Int32)), .val (.int (nar .boolean (if (500 : Int32) < (500 : Int32) then (0 : Int32) else (1 : Int32)))), .val (.ref r_), .val (.int (1 : Int32)), .unset] [(.int (1 : Int32))]))
    refine OGo.step (fun uK kK => XS.goto X15.here hx rfl (pc0 := 102) (pc' := 106) rfl (hb hby at_102) (by decide) (by decide) kK) ?_
    show OGo p e below _ (T15.setTop (mkF m 106 #[.val (.int p0), .val (.int p1), .val (.int p2), .val (.int lo), .val (.int hi), .val (.int (1 : Int32)), .val (.int (1 : Int32)), .val (.int (nar .boolean (if (500 : Int32) < (500 : Int32) then (0 : Int32) else (1 : Int32)))), .val (.ref r_), .val (.int (1 : Int32)), .unset] [(.int (1 : Int32))]))
    refine OGo.step (fun uK kK => XS.istore X15.here hx rfl (hb hby at_106) rfl (l' := #[.val (.int p0), .val (.int p1), .val (.int p2), .val (.int lo), .val (.int hi), .val (.int (1 : Int32)), .val (.int (1 : Int32)), .val (.int (nar .boolean (if (500 : Int32) < (500 : Int32) then (0 : Int32) else (1 : Int32)))), .val (.ref r_), .val (.int (1 : Int32)), .val (.int (1 : Int32))]) rfl kK) ?_
    show OGo p e below _ (T15.setTop (mkF m 108 #[.val (.int p0), .val (.int p1), .val (.int p2), .val (.int lo), .val (.int hi), .val (.int (1 : Int32)), .val (.int (1 : Int32)), .val (.int (nar .boolean (if (500 : Int32) < (500 : Int32) then (0 : Int32) else (1 : Int32)))), .val (.ref r_), .val (.int (1 : Int32)), .val (.int (1 : Int32))] []))
    refine OGo.step (fun uK kK => XS.iload X15.here hx rfl (hb hby at_108) rfl kK) ?_
    show OGo p e below _ (T15.setTop (mkF m 110 #[.val (.int p0), .val (.int p1), .val (.int p2), .val (.int lo), .val (.int hi), .val (.int (1 : Int32)), .val (.int (1 : Int32)), .val (.int (nar .boolean (if (500 : Int32) < (500 : Int32) then (0 : Int32) else (1 : Int32)))), .val (.ref r_), .val (.int (1 : Int32)), .val (.int (1 : Int32))] [(.int (1 : Int32))]))
    have hc110 : ¬ ((1 : Int32) = (0 : Int32)) := by decide
    refine OGo.step (fun uK kK => XS.ifNo X15.here hx rfl (hb hby at_110) rfl ((if0 _ _).trans (feq hc110).1) kK) ?_
    show OGo p e below _ (T15.setTop (mkF m 113 #[.val (.int p0), .val (.int p1), .val (.int p2), .val (.int lo), .val (.int hi), .val (.int (1 : Int32)), .val (.int (1 : Int32)), .val (.int (nar .boolean (if (500 : Int32) < (500 : Int32) then (0 : Int32) else (1 : Int32)))), .val (.ref r_), .val (.int (1 : Int32)), .val (.int (1 : Int32))] []))
    refine OGo.step (fun uK kK => XS.iload X15.here hx rfl (hb hby at_113) rfl kK) ?_
    show OGo p e below _ (T15.setTop (mkF m 115 #[.val (.int p0), .val (.int p1), .val (.int p2), .val (.int lo), .val (.int hi), .val (.int (1 : Int32)), .val (.int (1 : Int32)), .val (.int (nar .boolean (if (500 : Int32) < (500 : Int32) then (0 : Int32) else (1 : Int32)))), .val (.ref r_), .val (.int (1 : Int32)), .val (.int (1 : Int32))] [(.int (1 : Int32))]))
    have hc115 : ¬ ((1 : Int32) = (0 : Int32)) := by decide
    refine OGo.step (fun uK kK => XS.ifNo X15.here hx rfl (hb hby at_115) rfl ((if0 _ _).trans (feq hc115).1) kK) ?_
    show OGo p e below _ (T15.setTop (mkF m 118 #[.val (.int p0), .val (.int p1), .val (.int p2), .val (.int lo), .val (.int hi), .val (.int (1 : Int32)), .val (.int (1 : Int32)), .val (.int (nar .boolean (if (500 : Int32) < (500 : Int32) then (0 : Int32) else (1 : Int32)))), .val (.ref r_), .val (.int (1 : Int32)), .val (.int (1 : Int32))] []))
    refine OGo.step (fun uK kK => XS.iload X15.here hx rfl (hb hby at_118) rfl kK) ?_
    show OGo p e below _ (T15.setTop (mkF m 120 #[.val (.int p0), .val (.int p1), .val (.int p2), .val (.int lo), .val (.int hi), .val (.int (1 : Int32)), .val (.int (1 : Int32)), .val (.int (nar .boolean (if (500 : Int32) < (500 : Int32) then (0 : Int32) else (1 : Int32)))), .val (.ref r_), .val (.int (1 : Int32)), .val (.int (1 : Int32))] [(.int (nar .boolean (if (500 : Int32) < (500 : Int32) then (0 : Int32) else (1 : Int32))))]))
    have hc120 : ¬ ((nar .boolean (if (500 : Int32) < (500 : Int32) then (0 : Int32) else (1 : Int32))) = (0 : Int32)) := by decide
    refine OGo.step (fun uK kK => XS.ifNo X15.here hx rfl (hb hby at_120) rfl ((if0 _ _).trans (feq hc120).1) kK) ?_
    show OGo p e below _ (T15.setTop (mkF m 123 #[.val (.int p0), .val (.int p1), .val (.int p2), .val (.int lo), .val (.int hi), .val (.int (1 : Int32)), .val (.int (1 : Int32)), .val (.int (nar .boolean (if (500 : Int32) < (500 : Int32) then (0 : Int32) else (1 : Int32)))), .val (.ref r_), .val (.int (1 : Int32)), .val (.int (1 : Int32))] []))
    refine OGo.step (fun uK kK => XS.iload X15.here hx rfl (hb hby at_123) rfl kK) ?_
    show OGo p e below _ (T15.setTop (mkF m 125 #[.val (.int p0), .val (.int p1), .val (.int p2), .val (.int lo), .val (.int hi), .val (.int (1 : Int32)), .val (.int (1 : Int32)), .val (.int (nar .boolean (if (500 : Int32) < (500 : Int32) then (0 : Int32) else (1 : Int32)))), .val (.ref r_), .val (.int (1 : Int32)), .val (.int (1 : Int32))] [(.int (1 : Int32))]))
    have hc125 : ¬ ((1 : Int32) = (0 : Int32)) := by decide
    refine OGo.step (fun uK kK => XS.ifNo X15.here hx rfl (hb hby at_125) rfl ((if0 _ _).trans (feq hc125).1) kK) ?_
    show OGo p e below _ (T15.setTop (mkF m 128 #[.val (.int p0), .val (.int p1), .val (.int p2), .val (.int lo), .val (.int hi), .val (.int (1 : Int32)), .val (.int (1 : Int32)), .val (.int (nar .boolean (if (500 : Int32) < (500 : Int32) then (0 : Int32) else (1 : Int32)))), .val (.ref r_), .val (.int (1 : Int32)), .val (.int (1 : Int32))] []))
    refine OGo.step (fun uK kK => XS.iconst X15.here hx rfl (hb hby at_128) kK) ?_
    show OGo p e below _ (T15.setTop (mkF m 129 #[.val (.int p0), .val (.int p1), .val (.int p2), .val (.int lo), .val (.int hi), .val (.int (1 : Int32)), .val (.int (1 : Int32)), .val (.int (nar .boolean (if (500 : Int32) < (500 : Int32) then (0 : Int32) else (1 : Int32)))), .val (.ref r_), .val (.int (1 : Int32)), .val (.int (1 : Int32))] [(.int (1 : Int32))]))
    refine OGo.step (fun uK kK => XS.goto X15.here hx rfl (pc0 := 129) (pc' := 133) rfl (hb hby at_129) (by decide) (by decide) kK) ?_
    show OGo p e below _ (T15.setTop (mkF m 133 #[.val (.int p0), .val (.int p1), .val (.int p2), .val (.int lo), .val (.int hi), .val (.int (1 : Int32)), .val (.int (1 : Int32)), .val (.int (nar .boolean (if (500 : Int32) < (500 : Int32) then (0 : Int32) else (1 : Int32)))), .val (.ref r_), .val (.int (1 : Int32)), .val (.int (1 : Int32))] [(.int (1 : Int32))]))
    exact OGo.retN X15 hx Bd.notSynchronized (t := .boolean) Bd.returns (by simp) (hb hby at_133) (by decide) (by decide) (by show Q0 Z p0 p1 p2 a_OK a_BAD_REQUEST a_UNAUTHORIZED a_FORBIDDEN a_NOT_FOUND a_METHOD_NOT_ALLOWED a_CONFLICT a_PAYLOAD_TOO_LARGE a_MISDIRECTED a_INTERNAL_ERROR a_UNAVAILABLE h0 n0 _ T15.heap _; rw [e15]; exact ⟨rfl, N15⟩)
  · skip
    refine OGo.step (fun uK kK => XS.aload X8.here hx rfl (hb hby at_65) rfl rfl kK) ?_
    show OGo p e below _ (T8.setTop (mkF m 67 #[.val (.int p0), .val (.int p1), .val (.int p2), .val (.int lo), .val (.int hi), .val (.int (1 : Int32)), .val (.int (1 : Int32)), .val (.int (nar .boolean (if (500 : Int32) < (500 : Int32) then (0 : Int32) else (1 : Int32)))), .val (.ref r_), .unset, .unset] [(.ref r_)]))
    obtain ⟨T16, X16, e16, st16⟩ := getS2 X8 hx hZ hown (host := "") (Or.inl (hw _ (List.mem_of_getElem? (i := 18) rfl))) Via.refl e8 H_INTERNAL_ERROR.1 (g := (mkF m 67 #[.val (.int p0), .val (.int p1), .val (.int p2), .val (.int lo), .val (.int hi), .val (.int (1 : Int32)), .val (.int (1 : Int32)), .val (.int (nar .boolean (if (500 : Int32) < (500 : Int32) then (0 : Int32) else (1 : Int32)))), .val (.ref r_), .unset, .unset] [(.ref r_)])) rfl (hb hby at_67)
    refine OGo.step (fun uK kK => st16 uK kK) ?_
    show OGo p e below _ (T16.setTop (mkF m 70 #[.val (.int p0), .val (.int p1), .val (.int p2), .val (.int lo), .val (.int hi), .val (.int (1 : Int32)), .val (.int (1 : Int32)), .val (.int (nar .boolean (if (500 : Int32) < (500 : Int32) then (0 : Int32) else (1 : Int32)))), .val (.ref r_), .unset, .unset] [(.ref a_INTERNAL_ERROR), (.ref r_)]))
    have ha70 : ¬ (r_ = a_INTERNAL_ERROR) := Fld.ne Fc H_INTERNAL_ERROR.2.2 (own_lt500 hlt (by decide))
    refine OGo.step (fun uK kK => Jvm.RoadKit.acmp (g := (mkF m 70 #[.val (.int p0), .val (.int p1), .val (.int p2), .val (.int lo), .val (.int hi), .val (.int (1 : Int32)), .val (.int (1 : Int32)), .val (.int (nar .boolean (if (500 : Int32) < (500 : Int32) then (0 : Int32) else (1 : Int32)))), .val (.ref r_), .unset, .unset] [(.ref a_INTERNAL_ERROR), (.ref r_)])) X16 hx rfl rfl rfl (pc0 := 70) (pc' := 73) (same := false) rfl (hb hby at_70) rfl (decide_eq_false fun q => ha70 (Value.ref.inj q)) (by decide) (by decide) kK) ?_
    show OGo p e below _ (T16.setTop (mkF m 73 #[.val (.int p0), .val (.int p1), .val (.int p2), .val (.int lo), .val (.int hi), .val (.int (1 : Int32)), .val (.int (1 : Int32)), .val (.int (nar .boolean (if (500 : Int32) < (500 : Int32) then (0 : Int32) else (1 : Int32)))), .val (.ref r_), .unset, .unset] []))
    refine OGo.step (fun uK kK => XS.aload X16.here hx rfl (hb hby at_73) rfl rfl kK) ?_
    show OGo p e below _ (T16.setTop (mkF m 75 #[.val (.int p0), .val (.int p1), .val (.int p2), .val (.int lo), .val (.int hi), .val (.int (1 : Int32)), .val (.int (1 : Int32)), .val (.int (nar .boolean (if (500 : Int32) < (500 : Int32) then (0 : Int32) else (1 : Int32)))), .val (.ref r_), .unset, .unset] [(.ref r_)]))
    obtain ⟨T17, X17, e17, st17⟩ := getS2 X16 hx hZ hown (host := "") (Or.inl (hw _ (List.mem_of_getElem? (i := 20) rfl))) Via.refl e16 H_UNAVAILABLE.1 (g := (mkF m 75 #[.val (.int p0), .val (.int p1), .val (.int p2), .val (.int lo), .val (.int hi), .val (.int (1 : Int32)), .val (.int (1 : Int32)), .val (.int (nar .boolean (if (500 : Int32) < (500 : Int32) then (0 : Int32) else (1 : Int32)))), .val (.ref r_), .unset, .unset] [(.ref r_)])) rfl (hb hby at_75)
    refine OGo.step (fun uK kK => st17 uK kK) ?_
    show OGo p e below _ (T17.setTop (mkF m 78 #[.val (.int p0), .val (.int p1), .val (.int p2), .val (.int lo), .val (.int hi), .val (.int (1 : Int32)), .val (.int (1 : Int32)), .val (.int (nar .boolean (if (500 : Int32) < (500 : Int32) then (0 : Int32) else (1 : Int32)))), .val (.ref r_), .unset, .unset] [(.ref a_UNAVAILABLE), (.ref r_)]))
    have ha78 : ¬ (r_ = a_UNAVAILABLE) := Fld.ne Fc H_UNAVAILABLE.2.2 (own_lt500 hlt (by decide))
    refine OGo.step (fun uK kK => Jvm.RoadKit.acmp (g := (mkF m 78 #[.val (.int p0), .val (.int p1), .val (.int p2), .val (.int lo), .val (.int hi), .val (.int (1 : Int32)), .val (.int (1 : Int32)), .val (.int (nar .boolean (if (500 : Int32) < (500 : Int32) then (0 : Int32) else (1 : Int32)))), .val (.ref r_), .unset, .unset] [(.ref a_UNAVAILABLE), (.ref r_)])) X17 hx rfl rfl rfl (pc0 := 78) (pc' := 85) (same := false) rfl (hb hby at_78) rfl (decide_eq_false fun q => ha78 (Value.ref.inj q)) (by decide) (by decide) kK) ?_
    show OGo p e below _ (T17.setTop (mkF m 85 #[.val (.int p0), .val (.int p1), .val (.int p2), .val (.int lo), .val (.int hi), .val (.int (1 : Int32)), .val (.int (1 : Int32)), .val (.int (nar .boolean (if (500 : Int32) < (500 : Int32) then (0 : Int32) else (1 : Int32)))), .val (.ref r_), .unset, .unset] []))
    refine OGo.step (fun uK kK => XS.iconst X17.here hx rfl (hb hby at_85) kK) ?_
    show OGo p e below _ (T17.setTop (mkF m 86 #[.val (.int p0), .val (.int p1), .val (.int p2), .val (.int lo), .val (.int hi), .val (.int (1 : Int32)), .val (.int (1 : Int32)), .val (.int (nar .boolean (if (500 : Int32) < (500 : Int32) then (0 : Int32) else (1 : Int32)))), .val (.ref r_), .unset, .unset] [(.int (0 : Int32))]))
    refine OGo.step (fun uK kK => XS.istore X17.here hx rfl (hb hby at_86) rfl (l' := #[.val (.int p0), .val (.int p1), .val (.int p2), .val (.int lo), .val (.int hi), .val (.int (1 : Int32)), .val (.int (1 : Int32)), .val (.int (nar .boolean (if (500 : Int32) < (500 : Int32) then (0 : Int32) else (1 : Int32)))), .val (.ref r_), .val (.int (0 : Int32)), .unset]) rfl kK) ?_
    show OGo p e below _ (T17.setTop (mkF m 88 #[.val (.int p0), .val (.int p1), .val (.int p2), .val (.int lo), .val (.int hi), .val (.int (1 : Int32)), .val (.int (1 : Int32)), .val (.int (nar .boolean (if (500 : Int32) < (500 : Int32) then (0 : Int32) else (1 : Int32)))), .val (.ref r_), .val (.int (0 : Int32)), .unset] []))
    refine OGo.step (fun uK kK => XS.aload X17.here hx rfl (hb hby at_88) rfl rfl kK) ?_
    show OGo p e below _ (T17.setTop (mkF m 90 #[.val (.int p0), .val (.int p1), .val (.int p2), .val (.int lo), .val (.int hi), .val (.int (1 : Int32)), .val (.int (1 : Int32)), .val (.int (nar .boolean (if (500 : Int32) < (500 : Int32) then (0 : Int32) else (1 : Int32)))), .val (.ref r_), .val (.int (0 : Int32)), .unset] [(.ref r_)]))
    obtain ⟨cq18, kq18, q18a, q18b, q18c⟩ := isOf hZ e17 Er
    obtain ⟨_, _, ⟨T18, Lq18, kq_18, nq_18⟩, -, X18, ⟨Lc18, hQ18, lq18, yq18, zq18⟩, st18⟩ := X17.virtualBack hx (y := (⟨"com/example/coxswain/coxswain/api/ApiStatus", "code", "()I"⟩ : MethodName)) (z := (⟨"com/example/coxswain/coxswain/api/ApiStatus", "code", "()I"⟩ : MethodName)) hown (mvT hZ (hw _ (List.mem_of_getElem? (i := 22) rfl))) (mvT hZ (hw _ (List.mem_of_getElem? (i := 23) rfl))) (notFace_of_selects (args := #[]) (mvT hZ (hw _ (List.mem_of_getElem? (i := 25) rfl)))) (mvT hZ (hw _ (List.mem_of_getElem? (i := 25) rfl))) (mvT hZ (hw _ (List.mem_of_getElem? (i := 24) rfl))) (by decide) (backOf (W := 0) (rmcd l Z a0 hw [] r_ cd_ h0 n0 Z0 Fc) hZ (hw _ (List.mem_of_getElem? (i := 26) rfl)) (hw _ (List.mem_of_getElem? (i := 9) rfl)) (by decide) (by decide)) q18a q18c (g := (mkF m 90 #[.val (.int p0), .val (.int p1), .val (.int p2), .val (.int lo), .val (.int hi), .val (.int (1 : Int32)), .val (.int (1 : Int32)), .val (.int (nar .boolean (if (500 : Int32) < (500 : Int32) then (0 : Int32) else (1 : Int32)))), .val (.ref r_), .val (.int (0 : Int32)), .unset] [(.ref r_)])) rfl (by rw [hml]; rfl) (Steps.refl _) (argsL := []) (rest := []) (lenOf pd0_3 rfl) rfl (by show 2 * 0 + _ ≤ _; exact Nat.le_of_eq rfl) (hb hby at_90) (fun _ _ => ⟨rfl, e17, (by decide : 0 + 0 ≤ _), (by decide : 0 + 0 ≤ _)⟩)
    dsimp only [Pt.U, Pt.locs, Pt.cells, Pt.slots] at X18 lq18 yq18 zq18 st18 hQ18
    subst lq18 yq18 zq18
    obtain ⟨rfl, Nq18, e18⟩ := hQ18
    have N18 := Fr.app N8 Nq18
    refine OGo.steps st18 ?_
    show OGo p e below _ (T18.setTop (mkF m 93 #[.val (.int p0), .val (.int p1), .val (.int p2), .val (.int lo), .val (.int hi), .val (.int (1 : Int32)), .val (.int (1 : Int32)), .val (.int (nar .boolean (if (500 : Int32) < (500 : Int32) then (0 : Int32) else (1 : Int32)))), .val (.ref r_), .val (.int (0 : Int32)), .unset] [(.int cd_)]))
    obtain ⟨_, _, ⟨T19, Lq19, kq_19, nq_19⟩, -, X19, ⟨Lc19, hQ19, lq19, yq19, zq19⟩, st19⟩ := Jvm.LawKit.callS X18 hx (y := (⟨"com/example/coxswain/coxswain/api/ApiStatus", "mayHaveTakenEffect", "(I)Z"⟩ : MethodName)) hown (mvT hZ (hw _ (List.mem_of_getElem? (i := 7) rfl))) (mvT hZ (hw _ (List.mem_of_getElem? (i := 8) rfl))) (mvT hZ (hw _ (List.mem_of_getElem? (i := 9) rfl))) (mvT hZ (hw _ (List.mem_of_getElem? (i := 10) rfl))) (by decide) (backOf (W := 0) (rmmy l Z a0 hw [] cd_  h0 n0 Z0 ) hZ (hw _ (List.mem_of_getElem? (i := 10) rfl)) (hw _ (List.mem_of_getElem? (i := 9) rfl)) (by decide) (by decide)) (g := (mkF m 93 #[.val (.int p0), .val (.int p1), .val (.int p2), .val (.int lo), .val (.int hi), .val (.int (1 : Int32)), .val (.int (1 : Int32)), .val (.int (nar .boolean (if (500 : Int32) < (500 : Int32) then (0 : Int32) else (1 : Int32)))), .val (.ref r_), .val (.int (0 : Int32)), .unset] [(.int cd_)])) rfl (by rw [hml]; rfl) (argsL := [(.int cd_)]) (rest := []) (lenOf pd0_1 rfl) rfl (by show 2 * 0 + _ ≤ _; exact Nat.le_of_eq rfl) (hb hby at_93) (fun _ _ => ⟨rfl, e18, (by decide : 0 + 0 ≤ _), (by decide : 0 + 0 ≤ _)⟩)
    dsimp only [Pt.U, Pt.locs, Pt.cells, Pt.slots] at X19 lq19 yq19 zq19 st19 hQ19
    subst lq19 yq19 zq19
    obtain ⟨rfl, Nq19, e19⟩ := hQ19
    have N19 := Fr.app N18 Nq19
    refine OGo.step (fun uK kK => st19 uK kK) ?_
    show OGo p e below _ (T19.setTop (mkF m 96 #[.val (.int p0), .val (.int p1), .val (.int p2), .val (.int lo), .val (.int hi), .val (.int (1 : Int32)), .val (.int (1 : Int32)), .val (.int (nar .boolean (if (500 : Int32) < (500 : Int32) then (0 : Int32) else (1 : Int32)))), .val (.ref r_), .val (.int (0 : Int32)), .unset] [(.int (nar .boolean (if cd_ < (500 : Int32) then (0 : Int32) else (1 : Int32))))]))
    refine OGo.step (fun uK kK => XS.iload X19.here hx rfl (hb hby at_96) rfl kK) ?_
    show OGo p e below _ (T19.setTop (mkF m 98 #[.val (.int p0), .val (.int p1), .val (.int p2), .val (.int lo), .val (.int hi), .val (.int (1 : Int32)), .val (.int (1 : Int32)), .val (.int (nar .boolean (if (500 : Int32) < (500 : Int32) then (0 : Int32) else (1 : Int32)))), .val (.ref r_), .val (.int (0 : Int32)), .unset] [(.int (0 : Int32)), (.int (nar .boolean (if cd_ < (500 : Int32) then (0 : Int32) else (1 : Int32))))]))
    have hc98 : (nar .boolean (if cd_ < (500 : Int32) then (0 : Int32) else (1 : Int32))) = (0 : Int32) := by rw [if_pos hlt]; decide
    refine OGo.step (fun uK kK => XS.icmpNo X19.here hx rfl (hb hby at_98) rfl (teq hc98).2 kK) ?_
    show OGo p e below _ (T19.setTop (mkF m 101 #[.val (.int p0), .val (.int p1), .val (.int p2), .val (.int lo), .val (.int hi), .val (.int (1 : Int32)), .val (.int (1 : Int32)), .val (.int (nar .boolean (if (500 : Int32) < (500 : Int32) then (0 : Int32) else (1 : Int32)))), .val (.ref r_), .val (.int (0 : Int32)), .unset] []))
    refine OGo.step (fun uK kK => XS.iconst X19.here hx rfl (hb hby at_101) kK) ?_
    show OGo p e below _ (T19.setTop (mkF m 102 #[.val (.int p0), .val (.int p1), .val (.int p2), .val (.int lo), .val (.int hi), .val (.int (1 : Int32)), .val (.int (1 : Int32)), .val (.int (nar .boolean (if (500 : Int32) < (500 : Int32) then (0 : Int32) else (1 : Int32)))), .val (.ref r_), .val (.int (0 : Int32)), .unset] [(.int (1 : Int32))]))
    refine OGo.step (fun uK kK => XS.goto X19.here hx rfl (pc0 := 102) (pc' := 106) rfl (hb hby at_102) (by decide) (by decide) kK) ?_
    show OGo p e below _ (T19.setTop (mkF m 106 #[.val (.int p0), .val (.int p1), .val (.int p2), .val (.int lo), .val (.int hi), .val (.int (1 : Int32)), .val (.int (1 : Int32)), .val (.int (nar .boolean (if (500 : Int32) < (500 : Int32) then (0 : Int32) else (1 : Int32)))), .val (.ref r_), .val (.int (0 : Int32)), .unset] [(.int (1 : Int32))]))
    refine OGo.step (fun uK kK => XS.istore X19.here hx rfl (hb hby at_106) rfl (l' := #[.val (.int p0), .val (.int p1), .val (.int p2), .val (.int lo), .val (.int hi), .val (.int (1 : Int32)), .val (.int (1 : Int32)), .val (.int (nar .boolean (if (500 : Int32) < (500 : Int32) then (0 : Int32) else (1 : Int32)))), .val (.ref r_), .val (.int (0 : Int32)), .val (.int (1 : Int32))]) rfl kK) ?_
    show OGo p e below _ (T19.setTop (mkF m 108 #[.val (.int p0), .val (.int p1), .val (.int p2), .val (.int lo), .val (.int hi), .val (.int (1 : Int32)), .val (.int (1 : Int32)), .val (.int (nar .boolean (if (500 : Int32) < (500 : Int32) then (0 : Int32) else (1 : Int32)))), .val (.ref r_), .val (.int (0 : Int32)), .val (.int (1 : Int32))] []))
    refine OGo.step (fun uK kK => XS.iload X19.here hx rfl (hb hby at_108) rfl kK) ?_
    show OGo p e below _ (T19.setTop (mkF m 110 #[.val (.int p0), .val (.int p1), .val (.int p2), .val (.int lo), .val (.int hi), .val (.int (1 : Int32)), .val (.int (1 : Int32)), .val (.int (nar .boolean (if (500 : Int32) < (500 : Int32) then (0 : Int32) else (1 : Int32)))), .val (.ref r_), .val (.int (0 : Int32)), .val (.int (1 : Int32))] [(.int (1 : Int32))]))
    have hc110 : ¬ ((1 : Int32) = (0 : Int32)) := by decide
    refine OGo.step (fun uK kK => XS.ifNo X19.here hx rfl (hb hby at_110) rfl ((if0 _ _).trans (feq hc110).1) kK) ?_
    show OGo p e below _ (T19.setTop (mkF m 113 #[.val (.int p0), .val (.int p1), .val (.int p2), .val (.int lo), .val (.int hi), .val (.int (1 : Int32)), .val (.int (1 : Int32)), .val (.int (nar .boolean (if (500 : Int32) < (500 : Int32) then (0 : Int32) else (1 : Int32)))), .val (.ref r_), .val (.int (0 : Int32)), .val (.int (1 : Int32))] []))
    refine OGo.step (fun uK kK => XS.iload X19.here hx rfl (hb hby at_113) rfl kK) ?_
    show OGo p e below _ (T19.setTop (mkF m 115 #[.val (.int p0), .val (.int p1), .val (.int p2), .val (.int lo), .val (.int hi), .val (.int (1 : Int32)), .val (.int (1 : Int32)), .val (.int (nar .boolean (if (500 : Int32) < (500 : Int32) then (0 : Int32) else (1 : Int32)))), .val (.ref r_), .val (.int (0 : Int32)), .val (.int (1 : Int32))] [(.int (1 : Int32))]))
    have hc115 : ¬ ((1 : Int32) = (0 : Int32)) := by decide
    refine OGo.step (fun uK kK => XS.ifNo X19.here hx rfl (hb hby at_115) rfl ((if0 _ _).trans (feq hc115).1) kK) ?_
    show OGo p e below _ (T19.setTop (mkF m 118 #[.val (.int p0), .val (.int p1), .val (.int p2), .val (.int lo), .val (.int hi), .val (.int (1 : Int32)), .val (.int (1 : Int32)), .val (.int (nar .boolean (if (500 : Int32) < (500 : Int32) then (0 : Int32) else (1 : Int32)))), .val (.ref r_), .val (.int (0 : Int32)), .val (.int (1 : Int32))] []))
    refine OGo.step (fun uK kK => XS.iload X19.here hx rfl (hb hby at_118) rfl kK) ?_
    show OGo p e below _ (T19.setTop (mkF m 120 #[.val (.int p0), .val (.int p1), .val (.int p2), .val (.int lo), .val (.int hi), .val (.int (1 : Int32)), .val (.int (1 : Int32)), .val (.int (nar .boolean (if (500 : Int32) < (500 : Int32) then (0 : Int32) else (1 : Int32)))), .val (.ref r_), .val (.int (0 : Int32)), .val (.int (1 : Int32))] [(.int (nar .boolean (if (500 : Int32) < (500 : Int32) then (0 : Int32) else (1 : Int32))))]))
    have hc120 : ¬ ((nar .boolean (if (500 : Int32) < (500 : Int32) then (0 : Int32) else (1 : Int32))) = (0 : Int32)) := by decide
    refine OGo.step (fun uK kK => XS.ifNo X19.here hx rfl (hb hby at_120) rfl ((if0 _ _).trans (feq hc120).1) kK) ?_
    show OGo p e below _ (T19.setTop (mkF m 123 #[.val (.int p0), .val (.int p1), .val (.int p2), .val (.int lo), .val (.int hi), .val (.int (1 : Int32)), .val (.int (1 : Int32)), .val (.int (nar .boolean (if (500 : Int32) < (500 : Int32) then (0 : Int32) else (1 : Int32)))), .val (.ref r_), .val (.int (0 : Int32)), .val (.int (1 : Int32))] []))
    refine OGo.step (fun uK kK => XS.iload X19.here hx rfl (hb hby at_123) rfl kK) ?_
    show OGo p e below _ (T19.setTop (mkF m 125 #[.val (.int p0), .val (.int p1), .val (.int p2), .val (.int lo), .val (.int hi), .val (.int (1 : Int32)), .val (.int (1 : Int32)), .val (.int (nar .boolean (if (500 : Int32) < (500 : Int32) then (0 : Int32) else (1 : Int32)))), .val (.ref r_), .val (.int (0 : Int32)), .val (.int (1 : Int32))] [(.int (1 : Int32))]))
    have hc125 : ¬ ((1 : Int32) = (0 : Int32)) := by decide
    refine OGo.step (fun uK kK => XS.ifNo X19.here hx rfl (hb hby at_125) rfl ((if0 _ _).trans (feq hc125).1) kK) ?_
    show OGo p e below _ (T19.setTop (mkF m 128 #[.val (.int p0), .val (.int p1), .val (.int p2), .val (.int lo), .val (.int hi), .val (.int (1 : Int32)), .val (.int (1 : Int32)), .val (.int (nar .boolean (if (500 : Int32) < (500 : Int32) then (0 : Int32) else (1 : Int32)))), .val (.ref r_), .val (.int (0 : Int32)), .val (.int (1 : Int32))] []))
    refine OGo.step (fun uK kK => XS.iconst X19.here hx rfl (hb hby at_128) kK) ?_
    show OGo p e below _ (T19.setTop (mkF m 129 #[.val (.int p0), .val (.int p1), .val (.int p2), .val (.int lo), .val (.int hi), .val (.int (1 : Int32)), .val (.int (1 : Int32)), .val (.int (nar .boolean (if (500 : Int32) < (500 : Int32) then (0 : Int32) else (1 : Int32)))), .val (.ref r_), .val (.int (0 : Int32)), .val (.int (1 : Int32))] [(.int (1 : Int32))]))
    refine OGo.step (fun uK kK => XS.goto X19.here hx rfl (pc0 := 129) (pc' := 133) rfl (hb hby at_129) (by decide) (by decide) kK) ?_
    show OGo p e below _ (T19.setTop (mkF m 133 #[.val (.int p0), .val (.int p1), .val (.int p2), .val (.int lo), .val (.int hi), .val (.int (1 : Int32)), .val (.int (1 : Int32)), .val (.int (nar .boolean (if (500 : Int32) < (500 : Int32) then (0 : Int32) else (1 : Int32)))), .val (.ref r_), .val (.int (0 : Int32)), .val (.int (1 : Int32))] [(.int (1 : Int32))]))
    exact OGo.retN X19 hx Bd.notSynchronized (t := .boolean) Bd.returns (by simp) (hb hby at_133) (by decide) (by decide) (by show Q0 Z p0 p1 p2 a_OK a_BAD_REQUEST a_UNAUTHORIZED a_FORBIDDEN a_NOT_FOUND a_METHOD_NOT_ALLOWED a_CONFLICT a_PAYLOAD_TOO_LARGE a_MISDIRECTED a_INTERNAL_ERROR a_UNAVAILABLE h0 n0 _ T19.heap _; rw [e19]; exact ⟨rfl, N19⟩)
set_option maxRecDepth 65536 in
set_option maxHeartbeats 40000000 in
theorem comes_1 {Post : Tables → Env → Array Value → State → Outcome → State → Prop} (hpost : ∀ tb e args s v u, (limb_1_1.after args s (.returned v) u = true ∧ limb_1_2.after args s (.returned v) u = true ∧ True) → FrameEnd s (.returned v) u (Jvm.fieldLocs frame_1_writes args s ++ Jvm.arrayLocs frame_1_arrays args s ++ Jvm.staticLocs frame_1_statics s) 0 0 → Post tb e args s (.returned v) u) :
    ArmFor flags0 classFile x code maxLocals ret World_1 tables_1 room_1 Calls_1 rest_1 Pre_1 Post := by
  intro l hfl _ _ p e ha hc hk s m args below hf hA hF happ hP
  obtain ⟨hcalls, hrest, hpre⟩ := hP
  obtain ⟨-, -, -, hnamed, -, -, -, hat⟩ := (Spec.applies_iff hf).mp happ
  obtain ⟨hg, hn⟩ := and_e (Cond.before_iff.mp (show (Jvm.Cond.and given_1 narrow_1).before args s = true from hpre))
  obtain ⟨hcount, hg0⟩ := and_e hg
  obtain ⟨ga0, hg1⟩ := and_e hg0
  obtain ⟨ga1, hg2⟩ := and_e hg1
  have ga2 := hg2
  obtain ⟨w0, w1, w2, rfl⟩ : ∃ w0 w1 w2 : Value, args = #[w0, w1, w2] := by
    have hs : args.size = 3 := by simpa [Cond.value, given_1] using hcount
    obtain ⟨L⟩ := args
    match L, hs with
    | [w0, w1, w2], _ => exact ⟨w0, w1, w2, rfl⟩
  have hw := fun d (hd : d ∈ tables_1) => atoms_spec (ws := Jvm.Cond.code x code maxLocals ret :: tables_1) hat d (List.mem_cons_of_mem _ hd)
  have hfit : Fit s := fun {y c} hc i hi => by
    obtain ⟨ha, rfl⟩ := Array.getElem?_eq_some_iff.mp hc
    have q := List.all_eq_true.mp ((Array.all_eq_true_iff_forall_mem.mp hF) _ (Array.getElem_mem ha)) i (List.mem_range.mpr hi)
    simpa [Array.getElem?_eq_getElem hi] using q
  obtain ⟨i0, ei0⟩ := is_v ga0
  obtain rfl : w0 = (.int i0) := Option.some.inj ei0
  obtain ⟨i1, ei1⟩ := is_v ga1
  obtain rfl : w1 = (.int i1) := Option.some.inj ei1
  obtain ⟨i2, ei2⟩ := is_v ga2
  obtain rfl : w2 = (.int i2) := Option.some.inj ei2
  obtain ⟨nc0, ncr0⟩ := and_e hn
  obtain ⟨nc1, ncr1⟩ := and_e ncr0
  obtain ⟨nc2, ncr2⟩ := and_e ncr1
  obtain ⟨nc3, ncr3⟩ := and_e ncr2
  obtain ⟨nc4, ncr4⟩ := and_e ncr3
  obtain ⟨nc5, ncr5⟩ := and_e ncr4
  obtain ⟨nc6, ncr6⟩ := and_e ncr5
  obtain ⟨nc7, ncr7⟩ := and_e ncr6
  obtain ⟨nc8, ncr8⟩ := and_e ncr7
  obtain ⟨nc9, ncr9⟩ := and_e ncr8
  obtain ⟨nc10, ncr10⟩ := and_e ncr9
  obtain ⟨nc11, ncr11⟩ := and_e ncr10
  obtain ⟨nc12, ncr12⟩ := and_e ncr11
  obtain ⟨nc13, ncr13⟩ := and_e ncr12
  obtain ⟨nc14, ncr14⟩ := and_e ncr13
  obtain ⟨nc15, ncr15⟩ := and_e ncr14
  obtain ⟨nc16, ncr16⟩ := and_e ncr15
  obtain ⟨nc17, ncr17⟩ := and_e ncr16
  obtain ⟨nc18, ncr18⟩ := and_e ncr17
  obtain ⟨nc19, ncr19⟩ := and_e ncr18
  obtain ⟨nc20, ncr20⟩ := and_e ncr19
  obtain ⟨nc21, ncr21⟩ := and_e ncr20
  obtain ⟨nc22, ncr22⟩ := and_e ncr21
  obtain ⟨nc23, ncr23⟩ := and_e ncr22
  obtain ⟨nc24, ncr24⟩ := and_e ncr23
  obtain ⟨nc25, ncr25⟩ := and_e ncr24
  obtain ⟨nc26, ncr26⟩ := and_e ncr25
  obtain ⟨nc27, ncr27⟩ := and_e ncr26
  obtain ⟨nc28, ncr28⟩ := and_e ncr27
  obtain ⟨nc29, ncr29⟩ := and_e ncr28
  obtain ⟨nc30, ncr30⟩ := and_e ncr29
  obtain ⟨nc31, ncr31⟩ := and_e ncr30
  have nc32 := ncr31
  obtain ⟨a_OK, ev_OK⟩ := exa_v nc21
  have H_OK : En s s.heap "OK" 200 a_OK := ⟨Sta.start ev_OK (Or.inr ⟨(hw _ (List.mem_of_getElem? (i := 9) rfl)), (hw _ (List.mem_of_getElem? (i := 38) rfl))⟩), Exa.start ev_OK nc21, Fld.start ((fld_at ev_OK).symm.trans (own_eqI nc23 rfl))⟩
  obtain ⟨a_BAD_REQUEST, ev_BAD_REQUEST⟩ := exa_v nc27
  have H_BAD_REQUEST : En s s.heap "BAD_REQUEST" 400 a_BAD_REQUEST := ⟨Sta.start ev_BAD_REQUEST (Or.inr ⟨(hw _ (List.mem_of_getElem? (i := 9) rfl)), (hw _ (List.mem_of_getElem? (i := 42) rfl))⟩), Exa.start ev_BAD_REQUEST nc27, Fld.start ((fld_at ev_BAD_REQUEST).symm.trans (own_eqI nc29 rfl))⟩
  obtain ⟨a_UNAUTHORIZED, ev_UNAUTHORIZED⟩ := exa_v nc0
  have H_UNAUTHORIZED : En s s.heap "UNAUTHORIZED" 401 a_UNAUTHORIZED := ⟨Sta.start ev_UNAUTHORIZED (Or.inr ⟨(hw _ (List.mem_of_getElem? (i := 9) rfl)), (hw _ (List.mem_of_getElem? (i := 17) rfl))⟩), Exa.start ev_UNAUTHORIZED nc0, Fld.start ((fld_at ev_UNAUTHORIZED).symm.trans (own_eqI nc6 rfl))⟩
  obtain ⟨a_FORBIDDEN, ev_FORBIDDEN⟩ := exa_v nc7
  have H_FORBIDDEN : En s s.heap "FORBIDDEN" 403 a_FORBIDDEN := ⟨Sta.start ev_FORBIDDEN (Or.inr ⟨(hw _ (List.mem_of_getElem? (i := 9) rfl)), (hw _ (List.mem_of_getElem? (i := 30) rfl))⟩), Exa.start ev_FORBIDDEN nc7, Fld.start ((fld_at ev_FORBIDDEN).symm.trans (own_eqI nc9 rfl))⟩
  obtain ⟨a_NOT_FOUND, ev_NOT_FOUND⟩ := exa_v nc30
  have H_NOT_FOUND : En s s.heap "NOT_FOUND" 404 a_NOT_FOUND := ⟨Sta.start ev_NOT_FOUND (Or.inr ⟨(hw _ (List.mem_of_getElem? (i := 9) rfl)), (hw _ (List.mem_of_getElem? (i := 44) rfl))⟩), Exa.start ev_NOT_FOUND nc30, Fld.start ((fld_at ev_NOT_FOUND).symm.trans (own_eqI nc32 rfl))⟩
  obtain ⟨a_METHOD_NOT_ALLOWED, ev_METHOD_NOT_ALLOWED⟩ := exa_v nc15
  have H_METHOD_NOT_ALLOWED : En s s.heap "METHOD_NOT_ALLOWED" 405 a_METHOD_NOT_ALLOWED := ⟨Sta.start ev_METHOD_NOT_ALLOWED (Or.inr ⟨(hw _ (List.mem_of_getElem? (i := 9) rfl)), (hw _ (List.mem_of_getElem? (i := 34) rfl))⟩), Exa.start ev_METHOD_NOT_ALLOWED nc15, Fld.start ((fld_at ev_METHOD_NOT_ALLOWED).symm.trans (own_eqI nc17 rfl))⟩
  obtain ⟨a_CONFLICT, ev_CONFLICT⟩ := exa_v nc18
  have H_CONFLICT : En s s.heap "CONFLICT" 409 a_CONFLICT := ⟨Sta.start ev_CONFLICT (Or.inr ⟨(hw _ (List.mem_of_getElem? (i := 9) rfl)), (hw _ (List.mem_of_getElem? (i := 36) rfl))⟩), Exa.start ev_CONFLICT nc18, Fld.start ((fld_at ev_CONFLICT).symm.trans (own_eqI nc20 rfl))⟩
  obtain ⟨a_PAYLOAD_TOO_LARGE, ev_PAYLOAD_TOO_LARGE⟩ := exa_v nc24
  have H_PAYLOAD_TOO_LARGE : En s s.heap "PAYLOAD_TOO_LARGE" 413 a_PAYLOAD_TOO_LARGE := ⟨Sta.start ev_PAYLOAD_TOO_LARGE (Or.inr ⟨(hw _ (List.mem_of_getElem? (i := 9) rfl)), (hw _ (List.mem_of_getElem? (i := 40) rfl))⟩), Exa.start ev_PAYLOAD_TOO_LARGE nc24, Fld.start ((fld_at ev_PAYLOAD_TOO_LARGE).symm.trans (own_eqI nc26 rfl))⟩
  obtain ⟨a_MISDIRECTED, ev_MISDIRECTED⟩ := exa_v nc11
  have H_MISDIRECTED : En s s.heap "MISDIRECTED" 421 a_MISDIRECTED := ⟨Sta.start ev_MISDIRECTED (Or.inr ⟨(hw _ (List.mem_of_getElem? (i := 9) rfl)), (hw _ (List.mem_of_getElem? (i := 32) rfl))⟩), Exa.start ev_MISDIRECTED nc11, Fld.start ((fld_at ev_MISDIRECTED).symm.trans (own_eqI nc13 rfl))⟩
  obtain ⟨a_INTERNAL_ERROR, ev_INTERNAL_ERROR⟩ := exa_v nc1
  have H_INTERNAL_ERROR : En s s.heap "INTERNAL_ERROR" 500 a_INTERNAL_ERROR := ⟨Sta.start ev_INTERNAL_ERROR (Or.inr ⟨(hw _ (List.mem_of_getElem? (i := 9) rfl)), (hw _ (List.mem_of_getElem? (i := 19) rfl))⟩), Exa.start ev_INTERNAL_ERROR nc1, Fld.start ((fld_at ev_INTERNAL_ERROR).symm.trans (own_eqI nc10 rfl))⟩
  obtain ⟨a_UNAVAILABLE, ev_UNAVAILABLE⟩ := exa_v nc4
  have H_UNAVAILABLE : En s s.heap "UNAVAILABLE" 503 a_UNAVAILABLE := ⟨Sta.start ev_UNAVAILABLE (Or.inr ⟨(hw _ (List.mem_of_getElem? (i := 9) rfl)), (hw _ (List.mem_of_getElem? (i := 21) rfl))⟩), Exa.start ev_UNAVAILABLE nc4, Fld.start ((fld_at ev_UNAVAILABLE).symm.trans (own_eqI nc14 rfl))⟩
  obtain ⟨n, o, h1, h2, h3, _, L, rfl, ⟨rfl, N⟩, hq⟩ := rm0 l s _ hw tables_1 i0 i1 i2 a_OK a_BAD_REQUEST a_UNAUTHORIZED a_FORBIDDEN a_NOT_FOUND a_METHOD_NOT_ALLOWED a_CONFLICT a_PAYLOAD_TOO_LARGE a_MISDIRECTED a_INTERNAL_ERROR a_UNAVAILABLE s.heap s.heap.size (Nat.le_refl _) H_OK H_BAD_REQUEST H_UNAUTHORIZED H_FORBIDDEN H_NOT_FOUND H_METHOD_NOT_ALLOWED H_CONFLICT H_PAYLOAD_TOO_LARGE H_MISDIRECTED H_INTERNAL_ERROR H_UNAVAILABLE p e ha hc hk s m _ below hf ((Spec.applies_iff_loose hf).mp happ).1 ⟨rfl, State.Warmed39.refl s, rfl⟩ trivial
  refine ⟨n, _, h1, h2, h3, hpost _ _ _ _ _ _ ⟨Cond.after_iff.mpr rfl, Cond.after_iff.mpr (eq_i res_at (Term.int_eval (1)) rfl), trivial⟩ ⟨hq.1, hq.2.1, (hq.2.2.sift fun y hy => Or.inr (N y hy)).mono (by decide) (by decide)⟩⟩
theorem main_1_1 : Claimed_1_1 := comes_1 fun _ _ _ _ _ _ h hF => ⟨h.1, hF⟩
theorem main_1_2 : Claimed_1_2 := comes_1 fun _ _ _ _ _ _ h hF => ⟨h.2.1, hF⟩
end Jvm.Pilot.@@N@@
namespace Jvm.Pilot.@@N@@
open Jvm Jvm.ClassFile Sem Op Lib Jvm.Free Jvm.Stand Jvm.Pilot.@@N@@.Jvm.D
/-! MADE BY PROGRAM (witnessworld.py) out of the Statement's table words and the real class files: 13 classes; the members and pool entries that the words name. The judged class is class 1, her method 2. -/
namespace start1
open Jvm.ClassFile
def u (s : String) : CpInfo := .utf8 (stringToUtf16 s)
/-- a pool by its gaps: so many unusable entries, then the entry; so many at the end -/
def gap : Nat → List CpInfo → List CpInfo
  | 0, r => r
  | n + 1, r => .unusable :: gap n r
def poolList (es : List (Nat × CpInfo)) (last : Nat) : List CpInfo := es.foldr (fun e r => gap e.1 (e.2 :: r)) (gap last [])
def pool (es : List (Nat × CpInfo)) (last : Nat) : Array CpInfo := ⟨poolList es last⟩
def fileOf (pool : Array CpInfo) (this : Nat) (attrs : Array Attribute := #[]) (ms : Array MethodInfo := #[]) (fl : Nat := 33) (sup : Nat := 0) (ifs : Array Nat := #[]) (fds : Array FieldInfo := #[]) : ClassFile where
  minorVersion := 0
  majorVersion := 65
  constantPool := pool
  accessFlags := fl
  thisClass := this
  superClass := sup
  interfaces := ifs
  fields := fds
  methods := ms
  attributes := attrs
def plain (name : String) (sup : Option ClassId) : Class where
  name := name
  kind := .ordinary
  loader := none
  accessFlags := 33
  super := sup
  interfaces := #[]
  cf := none
  fields := #[]
  methods := #[]
  instanceTypes := #[]
  staticTypes := #[]
  resolved := #[]
  callSites := []
  init := .initialized
  statics := none
  mirror := none

def pool0 : Array CpInfo := pool [(5, u "<init>"), (0, u "()V"), (1, .class_ 10), (1, u "java/lang/Object")] 113

def k0m0 : Method := { name := "<init>", desc := "()V", sig := { parameters := [], returnType := none }, accessFlags := 1, code := none }
/-- java/lang/Object -/
def k0 : Class := { plain "java/lang/Object" none with
  accessFlags := 33
  interfaces := #[]
  cf := some (fileOf pool0 8 #[] #[{ accessFlags := 1, nameIndex := 5, descriptorIndex := 6, attributes := #[] }] 33 0 #[] #[])
  fields := #[]
  methods := #[k0m0]
  instanceTypes := #[]
  staticTypes := #[]
  resolved := Array.replicate 124 none
  statics := none }

def pool1 : Array CpInfo := pool [(2, .class_ 4), (1, u "java/lang/Object"), (0, u "<init>"), (0, u "()V"), (0, .integer 2147483647), (0, .fieldref 9 10), (0, .class_ 11), (0, .nameAndType 12 13), (0, u "com/example/coxswain/coxswain/api/ApiStatus"), (0, u "OK"), (0, u "Lcom/example/coxswain/coxswain/api/ApiStatus;"), (0, .fieldref 9 15), (0, .nameAndType 16 13), (0, u "BAD_REQUEST"), (0, .fieldref 9 18), (0, .nameAndType 19 13), (0, u "UNAUTHORIZED"), (0, .fieldref 9 21), (0, .nameAndType 22 13), (0, u "FORBIDDEN"), (0, .fieldref 9 24), (0, .nameAndType 25 13), (0, u "NOT_FOUND"), (0, .fieldref 9 27), (0, .nameAndType 28 13), (0, u "METHOD_NOT_ALLOWED"), (0, .fieldref 9 30), (0, .nameAndType 31 13), (0, u "CONFLICT"), (0, .fieldref 9 33), (0, .nameAndType 34 13), (0, u "PAYLOAD_TOO_LARGE"), (0, .fieldref 9 36), (0, .nameAndType 37 13), (0, u "MISDIRECTED"), (0, .fieldref 9 39), (0, .nameAndType 40 13), (0, u "INTERNAL_ERROR"), (0, .fieldref 9 42), (0, .nameAndType 43 13), (0, u "UNAVAILABLE"), (0, .methodref 45 46), (0, .class_ 47), (0, .nameAndType 48 49), (0, u "java/lang/Math"), (0, u "min"), (0, u "(II)I"), (0, .methodref 45 51), (0, .nameAndType 52 49), (0, u "max"), (0, .methodref 9 54), (0, .nameAndType 55 56), (0, u "mayHaveTakenEffect"), (0, u "(I)Z"), (0, .methodref 58 59), (0, .class_ 60), (0, .nameAndType 61 62), (0, u "com/example/coxswain/coxswain/api/ApiStatusMayHaveTakenEffectPinLaw"), (0, u "pick"), (0, u "(I)Lcom/example/coxswain/coxswain/api/ApiStatus;"), (0, .methodref 9 64), (0, .nameAndType 65 66), (0, u "code"), (0, u "()I"), (3, u "law"), (0, u "(III)Z")] 2

def k1m0 : Method := { name := "<init>", desc := "()V", sig := { parameters := [], returnType := none }, accessFlags := 1, code := none }
def k1c1 : Code := { maxStack := 2, maxLocals := 2, code := method_2_code, exceptionTable := #[], attributes := #[] }
def k1m1 : Method := { name := "pick", desc := "(I)Lcom/example/coxswain/coxswain/api/ApiStatus;", sig := { parameters := [.int], returnType := some (.object "com/example/coxswain/coxswain/api/ApiStatus") }, accessFlags := 10, code := some k1c1 }
def k1c2 : Code := { maxStack := 2, maxLocals := 11, code := code, exceptionTable := #[], attributes := #[] }
def k1m2 : Method := { name := "law", desc := "(III)Z", sig := { parameters := [.int, .int, .int], returnType := some .boolean }, accessFlags := 9, code := some k1c2 }
/-- com/example/coxswain/coxswain/api/ApiStatusMayHaveTakenEffectPinLaw -/
def k1 : Class := { plain "com/example/coxswain/coxswain/api/ApiStatusMayHaveTakenEffectPinLaw" (some 0) with
  accessFlags := 49
  interfaces := #[]
  cf := some (fileOf pool1 58 #[] #[{ accessFlags := 1, nameIndex := 5, descriptorIndex := 6, attributes := #[] }, { accessFlags := 10, nameIndex := 61, descriptorIndex := 62, attributes := #[] }, { accessFlags := 9, nameIndex := 70, descriptorIndex := 71, attributes := #[] }] 49 2 #[] #[])
  fields := #[]
  methods := #[k1m0, k1m1, k1m2]
  instanceTypes := #[]
  staticTypes := #[]
  resolved := Array.replicate 74 none
  statics := none }

def pool2 : Array CpInfo := pool [(1, .class_ 2), (0, u "java/lang/Math"), (1, .class_ 6), (1, u "java/lang/Object"), (0, u "<init>"), (0, u "()V"), (89, .class_ 100), (1, u "java/lang/Math$RandomNumberGeneratorHolder"), (71, u "negativeZeroFloatBits"), (0, u "J"), (2, u "negativeZeroDoubleBits"), (21, u "max"), (2, u "min"), (43, u "$assertionsDisabled"), (0, u "Z"), (88, u "(II)I"), (2, u "twoToTheDoubleScaleDown"), (0, u "D"), (4, u "twoToTheDoubleScaleUp"), (9, u "E"), (3, u "PI"), (2, u "TAU"), (2, u "DEGREES_TO_RADIANS"), (0, u "RADIANS_TO_DEGREES")] 94

def k2m0 : Method := { name := "<init>", desc := "()V", sig := { parameters := [], returnType := none }, accessFlags := 2, code := none }
def k2c1 : Code := { maxStack := 2, maxLocals := 2, code := jdk_29_method_65_code, exceptionTable := #[], attributes := #[] }
def k2m1 : Method := { name := "max", desc := "(II)I", sig := { parameters := [.int, .int], returnType := some .int }, accessFlags := 9, code := some k2c1 }
def k2c2 : Code := { maxStack := 2, maxLocals := 2, code := jdk_29_method_69_code, exceptionTable := #[], attributes := #[] }
def k2m2 : Method := { name := "min", desc := "(II)I", sig := { parameters := [.int, .int], returnType := some .int }, accessFlags := 9, code := some k2c2 }
/-- java/lang/Math -/
def k2 : Class := { plain "java/lang/Math" (some 0) with
  accessFlags := 49
  interfaces := #[]
  cf := some (fileOf pool2 1 #[.nestMembers #[98]] #[{ accessFlags := 2, nameIndex := 7, descriptorIndex := 8, attributes := #[] }, { accessFlags := 9, nameIndex := 198, descriptorIndex := 335, attributes := #[] }, { accessFlags := 9, nameIndex := 201, descriptorIndex := 335, attributes := #[] }] 49 4 #[] #[{ accessFlags := 25, nameIndex := 354, descriptorIndex := 339, attributes := #[] }, { accessFlags := 25, nameIndex := 358, descriptorIndex := 339, attributes := #[] }, { accessFlags := 25, nameIndex := 361, descriptorIndex := 339, attributes := #[] }, { accessFlags := 26, nameIndex := 364, descriptorIndex := 339, attributes := #[] }, { accessFlags := 26, nameIndex := 365, descriptorIndex := 339, attributes := #[] }, { accessFlags := 26, nameIndex := 172, descriptorIndex := 173, attributes := #[] }, { accessFlags := 26, nameIndex := 176, descriptorIndex := 173, attributes := #[] }, { accessFlags := 8, nameIndex := 344, descriptorIndex := 339, attributes := #[] }, { accessFlags := 8, nameIndex := 338, descriptorIndex := 339, attributes := #[] }, { accessFlags := 4120, nameIndex := 245, descriptorIndex := 246, attributes := #[] }])
  fields := #[{ name := "E", type := .double, accessFlags := 25, slot := 0, constantValue := 0 }, { name := "PI", type := .double, accessFlags := 25, slot := 1, constantValue := 0 }, { name := "TAU", type := .double, accessFlags := 25, slot := 2, constantValue := 0 }, { name := "DEGREES_TO_RADIANS", type := .double, accessFlags := 26, slot := 3, constantValue := 0 }, { name := "RADIANS_TO_DEGREES", type := .double, accessFlags := 26, slot := 4, constantValue := 0 }, { name := "negativeZeroFloatBits", type := .long, accessFlags := 26, slot := 5, constantValue := 0 }, { name := "negativeZeroDoubleBits", type := .long, accessFlags := 26, slot := 6, constantValue := 0 }, { name := "twoToTheDoubleScaleUp", type := .double, accessFlags := 8, slot := 7, constantValue := 0 }, { name := "twoToTheDoubleScaleDown", type := .double, accessFlags := 8, slot := 8, constantValue := 0 }, { name := "$assertionsDisabled", type := .boolean, accessFlags := 4120, slot := 9, constantValue := 0 }]
  methods := #[k2m0, k2m1, k2m2]
  instanceTypes := #[]
  staticTypes := #[.double, .double, .double, .double, .double, .long, .long, .double, .double, .boolean]
  resolved := Array.replicate 460 none
  statics := none }

def pool3 : Array CpInfo := pool [(1, .class_ 2), (0, u "java/lang/constant/Constable"), (0, .class_ 4), (0, u "java/lang/Object")] 6

/-- java/lang/constant/Constable -/
def k3 : Class := { plain "java/lang/constant/Constable" (some 0) with
  accessFlags := 1537
  interfaces := #[]
  cf := some (fileOf pool3 1 #[] #[] 1537 3 #[] #[])
  fields := #[]
  methods := #[]
  instanceTypes := #[]
  staticTypes := #[]
  resolved := Array.replicate 11 none
  statics := none }

def pool4 : Array CpInfo := pool [(1, .class_ 2), (0, u "java/lang/Comparable"), (0, .class_ 4), (0, u "java/lang/Object")] 7

/-- java/lang/Comparable -/
def k4 : Class := { plain "java/lang/Comparable" (some 0) with
  accessFlags := 1537
  interfaces := #[]
  cf := some (fileOf pool4 1 #[] #[] 1537 3 #[] #[])
  fields := #[]
  methods := #[]
  instanceTypes := #[]
  staticTypes := #[]
  resolved := Array.replicate 12 none
  statics := none }

def pool5 : Array CpInfo := pool [(1, .class_ 2), (0, u "java/io/Serializable"), (0, .class_ 4), (0, u "java/lang/Object")] 2

/-- java/io/Serializable -/
def k5 : Class := { plain "java/io/Serializable" (some 0) with
  accessFlags := 1537
  interfaces := #[]
  cf := some (fileOf pool5 1 #[] #[] 1537 3 #[] #[])
  fields := #[]
  methods := #[]
  instanceTypes := #[]
  staticTypes := #[]
  resolved := Array.replicate 7 none
  statics := none }

def pool6 : Array CpInfo := pool [(2, .class_ 4), (1, u "java/lang/Enum"), (0, u "name"), (0, u "Ljava/lang/String;"), (2, u "ordinal"), (0, u "I"), (1, .class_ 14), (1, u "java/lang/Object"), (4, u "hash"), (86, .class_ 108), (1, u "java/lang/Enum$EnumDesc"), (2, .class_ 112), (0, u "java/lang/constant/Constable"), (0, .class_ 114), (0, u "java/lang/Comparable"), (0, .class_ 116), (0, u "java/io/Serializable")] 87

/-- java/lang/Enum -/
def k6 : Class := { plain "java/lang/Enum" (some 0) with
  accessFlags := 1057
  interfaces := #[3, 4, 5]
  cf := some (fileOf pool6 2 #[.nestMembers #[106]] #[] 1057 12 #[111, 113, 115] #[{ accessFlags := 18, nameIndex := 5, descriptorIndex := 6, attributes := #[] }, { accessFlags := 18, nameIndex := 9, descriptorIndex := 10, attributes := #[] }, { accessFlags := 2, nameIndex := 19, descriptorIndex := 10, attributes := #[] }])
  fields := #[{ name := "name", type := (.object "java/lang/String"), accessFlags := 18, slot := 0, constantValue := 0 }, { name := "ordinal", type := .int, accessFlags := 18, slot := 1, constantValue := 0 }, { name := "hash", type := .int, accessFlags := 2, slot := 2, constantValue := 0 }]
  methods := #[]
  instanceTypes := #[(.object "java/lang/String"), .int, .int]
  staticTypes := #[]
  resolved := Array.replicate 204 none
  statics := none }

def pool7 : Array CpInfo := pool [(1, .class_ 2), (0, u "com/example/coxswain/coxswain/api/ApiStatus"), (2, u "OK"), (0, u "Lcom/example/coxswain/coxswain/api/ApiStatus;"), (2, u "BAD_REQUEST"), (2, u "UNAUTHORIZED"), (2, u "FORBIDDEN"), (2, u "NOT_FOUND"), (2, u "METHOD_NOT_ALLOWED"), (2, u "CONFLICT"), (2, u "PAYLOAD_TOO_LARGE"), (2, u "MISDIRECTED"), (2, u "INTERNAL_ERROR"), (2, u "UNAVAILABLE"), (2, u "$VALUES"), (0, u "[Lcom/example/coxswain/coxswain/api/ApiStatus;"), (6, .class_ 49), (1, u "java/lang/Enum"), (6, .fieldref 1 57), (0, .nameAndType 58 59), (0, u "code"), (0, u "I"), (25, u "()I"), (0, u "mayHaveTakenEffect"), (0, u "(I)Z")] 6

def k7c0 : Code := { maxStack := 1, maxLocals := 1, code := prog_3_method_4_code, exceptionTable := #[], attributes := #[] }
def k7m0 : Method := { name := "code", desc := "()I", sig := { parameters := [], returnType := some .int }, accessFlags := 1, code := some k7c0 }
def k7c1 : Code := { maxStack := 2, maxLocals := 1, code := prog_3_method_5_code, exceptionTable := #[], attributes := #[] }
def k7m1 : Method := { name := "mayHaveTakenEffect", desc := "(I)Z", sig := { parameters := [.int], returnType := some .boolean }, accessFlags := 9, code := some k7c1 }
/-- com/example/coxswain/coxswain/api/ApiStatus -/
def k7 : Class := { plain "com/example/coxswain/coxswain/api/ApiStatus" (some 6) with
  accessFlags := 16433
  interfaces := #[]
  cf := some (fileOf pool7 1 #[] #[{ accessFlags := 1, nameIndex := 58, descriptorIndex := 85, attributes := #[] }, { accessFlags := 9, nameIndex := 86, descriptorIndex := 87, attributes := #[] }] 16433 47 #[] #[{ accessFlags := 16409, nameIndex := 5, descriptorIndex := 6, attributes := #[] }, { accessFlags := 16409, nameIndex := 9, descriptorIndex := 6, attributes := #[] }, { accessFlags := 16409, nameIndex := 12, descriptorIndex := 6, attributes := #[] }, { accessFlags := 16409, nameIndex := 15, descriptorIndex := 6, attributes := #[] }, { accessFlags := 16409, nameIndex := 18, descriptorIndex := 6, attributes := #[] }, { accessFlags := 16409, nameIndex := 21, descriptorIndex := 6, attributes := #[] }, { accessFlags := 16409, nameIndex := 24, descriptorIndex := 6, attributes := #[] }, { accessFlags := 16409, nameIndex := 27, descriptorIndex := 6, attributes := #[] }, { accessFlags := 16409, nameIndex := 30, descriptorIndex := 6, attributes := #[] }, { accessFlags := 16409, nameIndex := 33, descriptorIndex := 6, attributes := #[] }, { accessFlags := 16409, nameIndex := 36, descriptorIndex := 6, attributes := #[] }, { accessFlags := 18, nameIndex := 58, descriptorIndex := 59, attributes := #[] }, { accessFlags := 4122, nameIndex := 39, descriptorIndex := 40, attributes := #[] }])
  fields := #[{ name := "OK", type := (.object "com/example/coxswain/coxswain/api/ApiStatus"), accessFlags := 16409, slot := 0, constantValue := 0 }, { name := "BAD_REQUEST", type := (.object "com/example/coxswain/coxswain/api/ApiStatus"), accessFlags := 16409, slot := 1, constantValue := 0 }, { name := "UNAUTHORIZED", type := (.object "com/example/coxswain/coxswain/api/ApiStatus"), accessFlags := 16409, slot := 2, constantValue := 0 }, { name := "FORBIDDEN", type := (.object "com/example/coxswain/coxswain/api/ApiStatus"), accessFlags := 16409, slot := 3, constantValue := 0 }, { name := "NOT_FOUND", type := (.object "com/example/coxswain/coxswain/api/ApiStatus"), accessFlags := 16409, slot := 4, constantValue := 0 }, { name := "METHOD_NOT_ALLOWED", type := (.object "com/example/coxswain/coxswain/api/ApiStatus"), accessFlags := 16409, slot := 5, constantValue := 0 }, { name := "CONFLICT", type := (.object "com/example/coxswain/coxswain/api/ApiStatus"), accessFlags := 16409, slot := 6, constantValue := 0 }, { name := "PAYLOAD_TOO_LARGE", type := (.object "com/example/coxswain/coxswain/api/ApiStatus"), accessFlags := 16409, slot := 7, constantValue := 0 }, { name := "MISDIRECTED", type := (.object "com/example/coxswain/coxswain/api/ApiStatus"), accessFlags := 16409, slot := 8, constantValue := 0 }, { name := "INTERNAL_ERROR", type := (.object "com/example/coxswain/coxswain/api/ApiStatus"), accessFlags := 16409, slot := 9, constantValue := 0 }, { name := "UNAVAILABLE", type := (.object "com/example/coxswain/coxswain/api/ApiStatus"), accessFlags := 16409, slot := 10, constantValue := 0 }, { name := "code", type := .int, accessFlags := 18, slot := 3, constantValue := 0 }, { name := "$VALUES", type := (.array (.object "com/example/coxswain/coxswain/api/ApiStatus")), accessFlags := 4122, slot := 11, constantValue := 0 }]
  methods := #[k7m0, k7m1]
  instanceTypes := #[(.object "java/lang/String"), .int, .int, .int]
  staticTypes := #[(.object "com/example/coxswain/coxswain/api/ApiStatus"), (.object "com/example/coxswain/coxswain/api/ApiStatus"), (.object "com/example/coxswain/coxswain/api/ApiStatus"), (.object "com/example/coxswain/coxswain/api/ApiStatus"), (.object "com/example/coxswain/coxswain/api/ApiStatus"), (.object "com/example/coxswain/coxswain/api/ApiStatus"), (.object "com/example/coxswain/coxswain/api/ApiStatus"), (.object "com/example/coxswain/coxswain/api/ApiStatus"), (.object "com/example/coxswain/coxswain/api/ApiStatus"), (.object "com/example/coxswain/coxswain/api/ApiStatus"), (.object "com/example/coxswain/coxswain/api/ApiStatus"), (.array (.object "com/example/coxswain/coxswain/api/ApiStatus"))]
  resolved := Array.replicate 94 none
  statics := some 0 }

def pool8 : Array CpInfo := pool [(1, u "java/lang/Cloneable"), (0, .class_ 1), (0, u "java/lang/Object"), (0, .class_ 3)] 3

/-- java/lang/Cloneable -/
def k8 : Class := { plain "java/lang/Cloneable" (some 0) with
  accessFlags := 1537
  interfaces := #[]
  cf := some (fileOf pool8 2 #[] #[] 1537 4 #[] #[])
  fields := #[]
  methods := #[]
  instanceTypes := #[]
  staticTypes := #[]
  resolved := Array.replicate 8 none
  statics := none }

/-- the primitive byte -/
def k9 : Class := { plain "byte" none with kind := .primitive 'B', accessFlags := 0x411 }
/-- [B -/
def k10 : Class := { plain "[B" (some 0) with kind := .array 9 .byte, interfaces := #[8, 5], accessFlags := 1041 }

/-- the primitive int -/
def k11 : Class := { plain "int" none with kind := .primitive 'I', accessFlags := 0x411 }
/-- [I -/
def k12 : Class := { plain "[I" (some 0) with kind := .array 11 .int, interfaces := #[8, 5], accessFlags := 1041 }

def heap : Heap := #[{ cls := 7, slots := #[.ref 1, .ref 2, .ref 3, .ref 4, .ref 5, .ref 6, .ref 7, .ref 8, .ref 9, .ref 10, .ref 11, .null], vm := .statics 7 },
  { cls := 7, slots := #[.null, .int 0, .int 0, .int 200], vm := .none },
  { cls := 7, slots := #[.null, .int 1, .int 0, .int 400], vm := .none },
  { cls := 7, slots := #[.null, .int 2, .int 0, .int 401], vm := .none },
  { cls := 7, slots := #[.null, .int 3, .int 0, .int 403], vm := .none },
  { cls := 7, slots := #[.null, .int 4, .int 0, .int 404], vm := .none },
  { cls := 7, slots := #[.null, .int 5, .int 0, .int 405], vm := .none },
  { cls := 7, slots := #[.null, .int 6, .int 0, .int 409], vm := .none },
  { cls := 7, slots := #[.null, .int 7, .int 0, .int 413], vm := .none },
  { cls := 7, slots := #[.null, .int 8, .int 0, .int 421], vm := .none },
  { cls := 7, slots := #[.null, .int 9, .int 0, .int 500], vm := .none },
  { cls := 7, slots := #[.null, .int 10, .int 0, .int 503], vm := .none }]
def classes : Array Class := #[k0, k1, k2, k3, k4, k5, k6, k7, k8, k9, k10, k11, k12]
def interned : List (Array UInt16 × Addr) := []
def slotsUsed : Nat := 56
def theMethod : MethodId := ⟨1, 2⟩
def args0 : Array Value := #[.int 5, .int 6, .int 7]
def aboutOver (below : List Frame) : State where
  vm := { classes := classes, interned := interned.toArray }
  heap := heap
  slotsUsed := slotsUsed
  threads := #[{ frames := .invoking theMethod args0 :: below }]
def below0 : List Frame := [.native { method := ⟨0, 0⟩, args := #[] }]
def about1 : State := aboutOver below0
def p0 : Program := .bare "" "" ""
def e0 : Env := launch0.env 0 0 0
theorem w_frames : about1.frames = Frame.invoking theMethod args0 :: below0 := rfl
set_option maxRecDepth 65536 in
theorem w_args : argsFit about1.vm theMethod args0 = true := by decide +kernel
set_option maxRecDepth 65536 in
theorem w_heap : heapFits about1 = true := by decide +kernel
set_option maxRecDepth 65536 in
theorem w_runnable : about1.curStatus? = some .runnable := by decide +kernel
set_option maxRecDepth 65536 in
theorem w_alone : about1.alone = true := by decide +kernel
set_option maxRecDepth 65536 in
theorem w_named : about1.methodNamed? x = some theMethod := by decide +kernel
set_option maxRecDepth 65536 in
theorem w_hears : about1.hears theMethod below0 = true := by decide +kernel
set_option maxRecDepth 65536 in
theorem w_ripe : about1.ripe theMethod args0 below0 = true := by decide +kernel
theorem w_running : about1.status = .running := rfl
set_option maxRecDepth 65536 in
theorem w_room : about1.hasRoom e0.platform room_1 = true :=
  launch0.hasRoom_least _ room_1 (by decide +kernel) (by decide +kernel) (by decide +kernel) (by decide +kernel) (by decide +kernel) (by decide +kernel)
theorem allAtoms_all (ts : List Jvm.Cond) (a : Array Jvm.Value) (st : Jvm.State) : (allAtoms ts).before a st = ts.all (fun c => c.before a st) := by
  induction ts with
  | nil => rfl
  | cons c t ih =>
    show (Jvm.Cond.and c (allAtoms t)).before a st = _
    rw [Jvm.Cond.before_and, ih, List.all_cons]
def words1 : List Jvm.Cond := Jvm.Cond.code x code maxLocals ret :: tables_1
/-- a 'code' word, met by the world's own term for the bytes: nothing is compared byte by byte -/
theorem code_word {y : MethodName} {bytes : ByteArray} {mx : Nat} {rt : Option FieldType} {a : Array Value} {s : State} {m : MethodId} {meth : Method} {c : Code} (h1 : s.methodNamed? y = some m) (h2 : s.vm.method? m = some meth) (h3 : meth.code = some c) (h4 : c.code = bytes)
    (h5 : (c.maxLocals == mx && c.exceptionTable.isEmpty && decide (c.maxStack ≤ mostOperands) && decide (meth.sig.returnType = rt) && !meth.locks && decide (parseMethodDescriptor y.desc = some meth.sig)) = true) : (Jvm.Cond.code y bytes mx rt).before a s = true := by
  simp only [Bool.and_eq_true, beq_iff_eq, Bool.not_eq_true', decide_eq_true_eq] at h5
  obtain ⟨⟨⟨⟨⟨g1, g2⟩, g3⟩, g4⟩, g5⟩, g6⟩ := h5
  simp [Cond.before, Cond.holds, Cond.value, h1, h2, h3, h4, g1, g2, g3, g4, g5, g6]
def isCode : Jvm.Cond → Bool
  | .code _ _ _ _ => true
  | _ => false
theorem all_split {L : List Jvm.Cond} {P : Jvm.Cond → Bool} (h1 : L.all (fun c => isCode c || P c) = true) (h2 : ∀ c ∈ L.filter isCode, P c = true) : L.all P = true := by
  refine List.all_eq_true.mpr fun c hc => ?_
  have h := List.all_eq_true.mp h1 c hc
  rcases Bool.eq_false_or_eq_true (isCode c) with hi | hi
  · exact h2 c (List.mem_filter.mpr ⟨hc, hi⟩)
  · simpa [hi] using h
set_option maxRecDepth 65536 in
theorem w_c0 : (Jvm.Cond.code x code maxLocals ret).before args0 about1 = true := code_word (m := ⟨1, 2⟩) (meth := k1m2) (c := k1c2) (by decide +kernel) rfl rfl rfl (by decide +kernel)
set_option maxRecDepth 65536 in
theorem w_c1 : (Jvm.Cond.code ({ cls := "java/lang/Math", name := "min", desc := "(II)I" } : Jvm.MethodName) jdk_29_method_69_code (2 : Nat) (Option.some Jvm.ClassFile.FieldType.int)).before args0 about1 = true := code_word (m := ⟨2, 2⟩) (meth := k2m2) (c := k2c2) (by decide +kernel) rfl rfl rfl (by decide +kernel)
set_option maxRecDepth 65536 in
theorem w_c2 : (Jvm.Cond.code ({ cls := "java/lang/Math", name := "max", desc := "(II)I" } : Jvm.MethodName) jdk_29_method_65_code (2 : Nat) (Option.some Jvm.ClassFile.FieldType.int)).before args0 about1 = true := code_word (m := ⟨2, 1⟩) (meth := k2m1) (c := k2c1) (by decide +kernel) rfl rfl rfl (by decide +kernel)
set_option maxRecDepth 65536 in
theorem w_c3 : (Jvm.Cond.code ({ cls := "com/example/coxswain/coxswain/api/ApiStatus", name := "mayHaveTakenEffect", desc := "(I)Z" } : Jvm.MethodName) prog_3_method_5_code (1 : Nat) (Option.some Jvm.ClassFile.FieldType.boolean)).before args0 about1 = true := code_word (m := ⟨7, 1⟩) (meth := k7m1) (c := k7c1) (by decide +kernel) rfl rfl rfl (by decide +kernel)
set_option maxRecDepth 65536 in
theorem w_c4 : (Jvm.Cond.code ({ cls := "com/example/coxswain/coxswain/api/ApiStatusMayHaveTakenEffectPinLaw", name := "pick", desc := "(I)Lcom/example/coxswain/coxswain/api/ApiStatus;" } : Jvm.MethodName) method_2_code (2 : Nat) (Option.some (Jvm.ClassFile.FieldType.object "com/example/coxswain/coxswain/api/ApiStatus"))).before args0 about1 = true := code_word (m := ⟨1, 1⟩) (meth := k1m1) (c := k1c1) (by decide +kernel) rfl rfl rfl (by decide +kernel)
set_option maxRecDepth 65536 in
theorem w_c5 : (Jvm.Cond.code ({ cls := "com/example/coxswain/coxswain/api/ApiStatus", name := "code", desc := "()I" } : Jvm.MethodName) prog_3_method_4_code (1 : Nat) (Option.some Jvm.ClassFile.FieldType.int)).before args0 about1 = true := code_word (m := ⟨7, 0⟩) (meth := k7m0) (c := k7c0) (by decide +kernel) rfl rfl rfl (by decide +kernel)
def codes1 : List Jvm.Cond := [Jvm.Cond.code x code maxLocals ret, Jvm.Cond.code ({ cls := "java/lang/Math", name := "min", desc := "(II)I" } : Jvm.MethodName) jdk_29_method_69_code (2 : Nat) (Option.some Jvm.ClassFile.FieldType.int), Jvm.Cond.code ({ cls := "java/lang/Math", name := "max", desc := "(II)I" } : Jvm.MethodName) jdk_29_method_65_code (2 : Nat) (Option.some Jvm.ClassFile.FieldType.int), Jvm.Cond.code ({ cls := "com/example/coxswain/coxswain/api/ApiStatus", name := "mayHaveTakenEffect", desc := "(I)Z" } : Jvm.MethodName) prog_3_method_5_code (1 : Nat) (Option.some Jvm.ClassFile.FieldType.boolean), Jvm.Cond.code ({ cls := "com/example/coxswain/coxswain/api/ApiStatusMayHaveTakenEffectPinLaw", name := "pick", desc := "(I)Lcom/example/coxswain/coxswain/api/ApiStatus;" } : Jvm.MethodName) method_2_code (2 : Nat) (Option.some (Jvm.ClassFile.FieldType.object "com/example/coxswain/coxswain/api/ApiStatus")), Jvm.Cond.code ({ cls := "com/example/coxswain/coxswain/api/ApiStatus", name := "code", desc := "()I" } : Jvm.MethodName) prog_3_method_4_code (1 : Nat) (Option.some Jvm.ClassFile.FieldType.int)]
set_option maxRecDepth 65536 in
theorem codes_eq : words1.filter isCode = codes1 := rfl
theorem w_codes : ∀ c ∈ words1.filter isCode, c.before args0 about1 = true := by
  rw [codes_eq]
  intro c hc
  simp only [codes1, List.mem_cons, List.not_mem_nil, or_false] at hc
  rcases hc with rfl | rfl | rfl | rfl | rfl | rfl
  · exact w_c0
  · exact w_c1
  · exact w_c2
  · exact w_c3
  · exact w_c4
  · exact w_c5
set_option maxRecDepth 65536 in
theorem w_t1 : (words1.take 24).all (fun c => isCode c || c.before args0 about1) = true := by decide +kernel
set_option maxRecDepth 65536 in
theorem w_t2 : (words1.drop 24).all (fun c => isCode c || c.before args0 about1) = true := by decide +kernel
theorem w_tables : (allAtoms (Jvm.Cond.code x code maxLocals ret :: tables_1)).before args0 about1 = true := by
  rw [allAtoms_all]
  show words1.all (fun c => c.before args0 about1) = true
  refine all_split ?_ w_codes
  rw [← List.take_append_drop 24 words1, List.all_append, w_t1, w_t2]
  rfl
set_option maxRecDepth 65536 in
theorem w_case : (Jvm.Cond.and given_1 narrow_1).before args0 about1 = true := by decide +kernel
theorem w_applies : (headSpec (Jvm.Cond.code x code maxLocals ret :: tables_1) room_1).applies x e0.platform about1 = true :=
  (Spec.applies_iff w_frames).mpr ⟨w_running, w_runnable, w_alone, w_named, w_hears, w_ripe, w_room, w_tables⟩
theorem atStart : AtStart classFile x code maxLocals ret World_1 tables_1 room_1 Calls_1 rest_1 Pre_1 launch0 p0 e0 about1 theMethod args0 below0 :=
  ⟨lists_1, trivial, launch0.admits_env _ _ _, launch0.least_env, fairChoices_fair.cas, fairChoices_fair.clock, w_frames, w_args, w_heap, w_applies, trivial, trivial, w_case⟩
end start1
theorem witness_1 : WitnessClaimed_1 := ⟨start1.p0, start1.e0, start1.about1, start1.theMethod, start1.args0, start1.below0, start1.atStart⟩
end Jvm.Pilot.@@N@@
