import JvmDerived
import JvmDerived.Pilot.@@N@@Statement
import JvmDerived.Pilot.@@N@@Code
set_option linter.unusedVariables false
set_option linter.unusedSimpArgs false
namespace Jvm.RoadKit
open Sem ClassFile Op Lib Jvm.Stand Jvm.Free Jvm.LawKit
section OwnFlow
variable {p : Program} {l : Launch} {e : Env} {R : Room} {s : State} {m : MethodId} {args : Array Value} {below : List Frame} {meth : Method} {c : Code} {T : State} {locs : List Loc} {cells slots : Nat} {P : State → Outcome → Prop} {Q : Option Value → Heap → List Loc → Prop} {C S : Nat}
/-- from t the run comes to an end at which P holds -/
def OGo (p : Program) (e : Env) (below : List Frame) (P : State → Outcome → Prop) (t : State) : Prop := ∃ s₂ o, Steps p.tables e below t s₂ ∧ s₂.status = .running ∧ Ended s₂ below o ∧ P s₂ o
/-- it returned; Q of the value, the heap and the places written; the frame -/
def OPost (s : State) (Q : Option Value → Heap → List Loc → Prop) (C S : Nat) (s₂ : State) (o : Outcome) : Prop := ∃ v L, o = .returned v ∧ Q v s₂.heap L ∧ FrameEnd s o s₂ L C S
theorem OGo.step {t t' : State} (h : ∀ u, Steps p.tables e below t' u → Steps p.tables e below t u) (g : OGo p e below P t') : OGo p e below P t := by
  obtain ⟨s2, o, h1, h2⟩ := g
  exact ⟨s2, o, h _ h1, h2⟩
theorem OGo.steps {t t' : State} (h : Steps p.tables e below t t') (g : OGo p e below P t') : OGo p e below P t := OGo.step (fun _ k => h.trans k) g
theorem OGo.retI (X : Stand p l e R s m args below meth c T locs cells slots) (hx : p.tables.exec = Jvm.exec) (hk : meth.locks = false) {pc : Nat} {Ls : Array Slot} {z : Int32} {rest : List Value} (hret : meth.sig.returnType = some .int) (hd : decode c.code pc = .ok (.ireturn, 1))
    (hc : cells ≤ C) (hs : slots ≤ S) (q : Q (some (.int z)) T.heap locs) : OGo p e below (OPost s Q C S) (T.setTop (mkF m pc Ls (.int z :: rest))) := by
  obtain ⟨fs, hr, hrun, hended, hW, hsame⟩ := X.leave (v := some (.int z)) (fun h => by rw [hret] at h; cases h) hk
  exact ⟨_, _, retOut X hx hret rfl (Or.inl ⟨rfl, Or.inl rfl, _, rfl⟩) hd hr, hrun, hended, _, _, rfl, q, ⟨_, rfl⟩, hW, hsame.mono hc hs⟩
theorem OGo.retN (X : Stand p l e R s m args below meth c T locs cells slots) (hx : p.tables.exec = Jvm.exec) (hk : meth.locks = false) {pc : Nat} {Ls : Array Slot} {z : Int32} {t : FieldType} {rest : List Value} (hret : meth.sig.returnType = some t) (ht : t = .boolean ∨ t = .byte ∨ t = .char ∨ t = .short) (hd : decode c.code pc = .ok (.ireturn, 1))
    (hc : cells ≤ C) (hs : slots ≤ S) (q : Q (some (.int (nar t z))) T.heap locs) : OGo p e below (OPost s Q C S) (T.setTop (mkF m pc Ls (.int z :: rest))) := by
  obtain ⟨fs, hr, hrun, hended, hW, hsame⟩ := X.leave (v := some (.int (nar t z))) (fun h => by rw [hret] at h; cases h) hk
  exact ⟨_, _, Jvm.RoadKit.retN X hx hret ht hd hr, hrun, hended, _, _, rfl, q, ⟨_, rfl⟩, hW, hsame.mono hc hs⟩
theorem OGo.retJ (X : Stand p l e R s m args below meth c T locs cells slots) (hx : p.tables.exec = Jvm.exec) (hk : meth.locks = false) {pc : Nat} {Ls : Array Slot} {z : Int64} {rest : List Value} (hret : meth.sig.returnType = some .long) (hd : decode c.code pc = .ok (.lreturn, 1))
    (hc : cells ≤ C) (hs : slots ≤ S) (q : Q (some (.long z)) T.heap locs) : OGo p e below (OPost s Q C S) (T.setTop (mkF m pc Ls (.long z :: rest))) := by
  obtain ⟨fs, hr, hrun, hended, hW, hsame⟩ := X.leave (v := some (.long z)) (fun h => by rw [hret] at h; cases h) hk
  exact ⟨_, _, retOut X hx hret rfl (Or.inr (Or.inl ⟨rfl, rfl, _, rfl⟩)) hd hr, hrun, hended, _, _, rfl, q, ⟨_, rfl⟩, hW, hsame.mono hc hs⟩
theorem OGo.retR (X : Stand p l e R s m args below meth c T locs cells slots) (hx : p.tables.exec = Jvm.exec) (hk : meth.locks = false) {pc : Nat} {Ls : Array Slot} {w : Value} {t : FieldType} {rest : List Value} (hret : meth.sig.returnType = some t) (ht : t.isReference = true) (hw : w.isRef = true) (hd : decode c.code pc = .ok (.areturn, 1))
    (hc : cells ≤ C) (hs : slots ≤ S) (q : Q (some w) T.heap locs) : OGo p e below (OPost s Q C S) (T.setTop (mkF m pc Ls (w :: rest))) := by
  obtain ⟨fs, hr, hrun, hended, hW, hsame⟩ := X.leave (v := some w) (fun h => by rw [hret] at h; cases h) hk
  have hn : narrow t w = w := by rcases ref_cases hw with rfl | ⟨a, rfl⟩ <;> cases t <;> first | rfl | (simp [FieldType.isReference] at ht)
  exact ⟨_, _, retOut X hx hret hn (Or.inr (Or.inr (Or.inr (Or.inr ⟨rfl, ht, hw⟩)))) hd hr, hrun, hended, _, _, rfl, q, ⟨_, rfl⟩, hW, hsame.mono hc hs⟩
theorem OGo.retV (X : Stand p l e R s m args below meth c T locs cells slots) (hx : p.tables.exec = Jvm.exec) (hk : meth.locks = false) {pc : Nat} {Ls : Array Slot} (hret : meth.sig.returnType = none) (hd : decode c.code pc = .ok (.return_, 1))
    (hc : cells ≤ C) (hs : slots ≤ S) (q : Q none T.heap locs) : OGo p e below (OPost s Q C S) (T.setTop (mkF m pc Ls [])) := by
  obtain ⟨fs, hr, hrun, hended, hW, hsame⟩ := X.leave (v := none) (fun _ => rfl) hk
  exact ⟨_, _, X.returnOut hx hret hd hr, hrun, hended, _, _, rfl, q, ⟨_, rfl⟩, hW, hsame.mono hc hs⟩
end OwnFlow
end Jvm.RoadKit
namespace Jvm.Pilot.@@N@@
open Jvm Jvm.ClassFile Sem Op Lib Jvm.Free Jvm.Stand Jvm.LawKit Jvm.RoadKit Bundle Jvm.Pilot.@@N@@.Jvm.D
theorem own_eqI {a b : Term} {args : Array Value} {first s : State} {o : Option Outcome} {idx : List Nat} {k : Int32} (h : (Cond.eq a b).value args first o s idx = some true) (hb : b.eval args first o idx s = some (.int k)) : a.eval args first o idx s = some (.int k) := by
  cases ha : a.eval args first o idx s with
  | none => simp [Cond.value, ha] at h
  | some y => cases y <;> simp [Cond.value, ha, hb] at h <;> rw [h]
theorem own_eqR {a b : Term} {args : Array Value} {first s : State} {o : Option Outcome} {idx : List Nat} {k : Addr} (h : (Cond.eq a b).value args first o s idx = some true) (hb : b.eval args first o idx s = some (.ref k)) : a.eval args first o idx s = some (.ref k) := by
  cases ha : a.eval args first o idx s with
  | none => simp [Cond.value, ha] at h
  | some y => cases y <;> simp [Cond.value, ha, hb] at h <;> rw [h]
theorem own_nb (P : Prop) [Decidable P] : nar .boolean (if P then (1 : Int32) else (0 : Int32)) = (if P then (1 : Int32) else (0 : Int32)) := by split <;> rfl
theorem own_bit (z : Int32) : (z &&& (1 : Int32)) = (0 : Int32) ∨ (z &&& (1 : Int32)) = (1 : Int32) := by
  have h := c_mask z 1 1 (by decide) (by decide)
  have e0 : (0 : Int32).toInt = 0 := by decide
  have e1 : (1 : Int32).toInt = 1 := by decide
  have : (z &&& (1 : Int32)).toInt = 0 ∨ (z &&& (1 : Int32)).toInt = 1 := by omega
  rcases this with q | q
  · left; exact Int32.toInt_inj.mp (by rw [q, e0])
  · right; exact Int32.toInt_inj.mp (by rw [q, e1])
theorem d3_0 : decode prog_15_method_7_code 0 = .ok (.iload_n 0, 1) := by decide +kernel
theorem d3_1 : decode prog_15_method_7_code 1 = .ok (.getstatic 3, 3) := by decide +kernel
theorem d3_4 : decode prog_15_method_7_code 4 = .ok (.getfield 48, 3) := by decide +kernel
theorem d3_7 : decode prog_15_method_7_code 7 = .ok (.iconst 1, 1) := by decide +kernel
theorem d3_8 : decode prog_15_method_7_code 8 = .ok (.iaload, 1) := by decide +kernel
theorem d3_9 : decode prog_15_method_7_code 9 = .ok (.if_icmp .ne 7, 3) := by decide +kernel
theorem d3_12 : decode prog_15_method_7_code 12 = .ok (.iconst 1, 1) := by decide +kernel
theorem d3_13 : decode prog_15_method_7_code 13 = .ok (.goto 4, 3) := by decide +kernel
theorem d3_16 : decode prog_15_method_7_code 16 = .ok (.iconst 0, 1) := by decide +kernel
theorem d3_17 : decode prog_15_method_7_code 17 = .ok (.ireturn, 1) := by decide +kernel
theorem pnb : plainName "com/example/keelform/keelform/ValueType" = true := by first | (simp [plainName, overriddenIn]; done) | decide +kernel
theorem efb (m : MethodId) (x0 : Int32) : entryFrame m #[(.int x0)] 1 = mkF m 0 #[.val (.int x0)] [] := by first | (simp [entryFrame, mkF, argsToLocals, Value.category]; done) | rfl
def Qb (Z : State) (p1 : Int32) (aB : Addr) (aW : Addr) (cW : Cell) (h0 : Heap) (n0 : Nat) (v : Option Value) (h : Heap) (L : List Loc) : Prop := v = some (.int (nar .boolean (if p1 = (1 : Int32) then (1 : Int32) else (0 : Int32)))) ∧ Fr n0 L ∧ h = h0
set_option maxRecDepth 65536 in
set_option maxHeartbeats 40000000 in
theorem rmb (l : Launch) (Z : State) (a0 : Array Value) (hw : ∀ d ∈ tables_1, d.before a0 Z = true) (ws : List Jvm.Cond) (p1 : Int32) (aB : Addr) (aW : Addr) (cW : Cell) (h0 : Heap) (n0 : Nat) (Z0 : n0 ≤ h0.size) (SB : Sta Z h0 "com/example/keelform/keelform/ValueType" "BOOLEAN" "Lcom/example/keelform/keelform/ValueType;" (.ref aB)) (FW : Fld Z h0 aB "com/example/keelform/keelform/ValueType" "wireTypes" "[I" (.ref aW)) (ArW : Arr Z h0 aW cW .int) (i1 : ¬ ((1 : Int32) < 0 ∨ cW.slots.size ≤ ((1 : Int32)).toNatClampNeg)) (v1 : cW.slots[((1 : Int32)).toNatClampNeg]? = some (.int (1 : Int32))) :
    MetFree l (⟨"com/example/keelform/keelform/ValueType", "booleanOfWireType", "(I)Z"⟩ : MethodName) (head1 (Jvm.Cond.code (⟨"com/example/keelform/keelform/ValueType", "booleanOfWireType", "(I)Z"⟩ : MethodName) prog_15_method_7_code 1 (some .boolean) :: ws) ({ frames := 0, cells := 0, slots := 0, locals := 0 } : Room)) (fun aQ UQ => aQ = #[(.int p1)] ∧ Z.Warmed39 UQ.vm ∧ UQ.heap = h0) (fun _ _ _ _ _ => True) (fun _ U o U' => ∃ v L, o = .returned v ∧ Qb Z p1 aB aW cW h0 n0 v U'.heap L ∧ FrameEnd U o U' L ({ frames := 0, cells := 0, slots := 0, locals := 0 } : Room).cells ({ frames := 0, cells := 0, slots := 0, locals := 0 } : Room).slots) := by
  refine MetFree.of_bodySF (plainFor_of_name pnb) hisR ?_
  intro p e s m args below meth c s₁ Bd hml0 hP hK
  obtain ⟨rfl, hZ, hh⟩ := hP
  have hx := Bd.exec
  have hby := Bd.bytes
  have hml : c.maxLocals = 1 := hml0
  have hown : s.vm.findClass "com/example/keelform/keelform/ValueType" = some m.cls := findClass_of_methodNamed Bd.named
  have hnm := (name_of_methodNamed Bd.named Bd.method).1
  have X0 : Stand p l e ({ frames := 0, cells := 0, slots := 0, locals := 0 } : Room) s m #[(.int p1)] below meth c s₁ [] 0 0 := Stand.of_body Bd
  have e0 : s₁.heap = h0 := by rw [← hh, Bd.state]; rfl
  have N0 := Fr.nil n0
  show OGo p e below (OPost s (Qb Z p1 aB aW cW h0 n0) ({ frames := 0, cells := 0, slots := 0, locals := 0 } : Room).cells ({ frames := 0, cells := 0, slots := 0, locals := 0 } : Room).slots) (s₁.setTop (entryFrame m #[(.int p1)] 1))
  refine OGo.step (fun uK kK => castTop (efb m p1) kK) ?_
  show OGo p e below _ (s₁.setTop (mkF m 0 #[.val (.int p1)] []))
  refine OGo.step (fun uK kK => XS.iloadN X0.here hx rfl (hb hby d3_0) rfl kK) ?_
  show OGo p e below _ (s₁.setTop (mkF m 1 #[.val (.int p1)] [(.int p1)]))
  obtain ⟨T1, X1, e1, st1⟩ := getS2 X0 hx hZ hown (host := "") (Or.inl (hw _ (List.mem_of_getElem? (i := 4) rfl))) Via.refl e0 SB (g := (mkF m 1 #[.val (.int p1)] [(.int p1)])) rfl (hb hby d3_1)
  refine OGo.step (fun uK kK => st1 uK kK) ?_
  show OGo p e below _ (T1.setTop (mkF m 4 #[.val (.int p1)] [(.ref aB), (.int p1)]))
  obtain ⟨T2, X2, e2, st2⟩ := getF X1 hx hZ hown (host := "") (Or.inl (hw _ (List.mem_of_getElem? (i := 6) rfl))) Via.refl e1 FW (g := (mkF m 4 #[.val (.int p1)] [(.ref aB), (.int p1)])) rfl rfl (hb hby d3_4)
  refine OGo.step (fun uK kK => st2 uK kK) ?_
  show OGo p e below _ (T2.setTop (mkF m 7 #[.val (.int p1)] [(.ref aW), (.int p1)]))
  refine OGo.step (fun uK kK => XS.iconst X2.here hx rfl (hb hby d3_7) kK) ?_
  show OGo p e below _ (T2.setTop (mkF m 8 #[.val (.int p1)] [(.int (1 : Int32)), (.ref aW), (.int p1)]))
  refine OGo.step (fun uK kK => X2.iaload hx (j := (1 : Int32)) (v := (.int (1 : Int32))) (by rw [e2]; exact ArW.1) (State.isArrayOf_alike hZ.alike ArW.2.1) ArW.2.2 i1 v1 (g := (mkF m 8 #[.val (.int p1)] [(.int (1 : Int32)), (.ref aW), (.int p1)])) rfl rfl (hb hby d3_8) uK kK) ?_
  show OGo p e below _ (T2.setTop (mkF m 9 #[.val (.int p1)] [(.int (1 : Int32)), (.int p1)]))
  refine OGo.step (t' := T2.setTop (mkF m 17 #[.val (.int p1)] [(.int (if p1 = (1 : Int32) then (1 : Int32) else (0 : Int32)))])) (fun uK kK => ?_) ?_
  · show Steps p.tables e below (T2.setTop (mkF m 9 #[.val (.int p1)] [(.int (1 : Int32)), (.int p1)])) _
    by_cases hm9_3 : p1 = (1 : Int32)
    · try rw [if_pos hm9_3] at kK
      refine XS.icmpNo X2.here hx rfl (hb hby d3_9) rfl (teq hm9_3).2 ?_
      refine XS.iconst X2.here hx rfl (hb hby d3_12) ?_
      show Steps p.tables e below (T2.setTop (mkF m 13 #[.val (.int p1)] [(.int (1 : Int32))])) _
      refine XS.goto X2.here hx rfl (pc0 := 13) (pc' := 17) rfl (hb hby d3_13) (by decide) (by decide) ?_
      show Steps p.tables e below (T2.setTop (mkF m 17 #[.val (.int p1)] [(.int (1 : Int32))])) _
      exact kK
    · try rw [if_neg hm9_3] at kK
      refine XS.icmpYes X2.here hx rfl (pc0 := 9) (pc' := 16) rfl (hb hby d3_9) rfl (feq hm9_3).2 (by decide) (by decide) ?_
      refine XS.iconst X2.here hx rfl (hb hby d3_16) ?_
      show Steps p.tables e below (T2.setTop (mkF m 17 #[.val (.int p1)] [(.int (0 : Int32))])) _
      exact kK
  show OGo p e below _ (T2.setTop (mkF m 17 #[.val (.int p1)] [(.int (if p1 = (1 : Int32) then (1 : Int32) else (0 : Int32)))]))
  exact OGo.retN X2 hx Bd.notSynchronized (t := .boolean) Bd.returns (by simp) (hb hby d3_17) (by decide) (by decide) (by show Qb Z p1 aB aW cW h0 n0 _ T2.heap _; rw [e2]; exact ⟨rfl, N0, rfl⟩)
theorem d1_0 : decode prog_15_method_8_code 0 = .ok (.getstatic 3, 3) := by decide +kernel
theorem d1_3 : decode prog_15_method_8_code 3 = .ok (.getfield 48, 3) := by decide +kernel
theorem d1_6 : decode prog_15_method_8_code 6 = .ok (.iload_n 0, 1) := by decide +kernel
theorem d1_7 : decode prog_15_method_8_code 7 = .ok (.ifCond .eq 7, 3) := by decide +kernel
theorem d1_10 : decode prog_15_method_8_code 10 = .ok (.iconst 1, 1) := by decide +kernel
theorem d1_11 : decode prog_15_method_8_code 11 = .ok (.goto 4, 3) := by decide +kernel
theorem d1_14 : decode prog_15_method_8_code 14 = .ok (.iconst 0, 1) := by decide +kernel
theorem d1_15 : decode prog_15_method_8_code 15 = .ok (.iaload, 1) := by decide +kernel
theorem d1_16 : decode prog_15_method_8_code 16 = .ok (.ireturn, 1) := by decide +kernel
theorem pnw : plainName "com/example/keelform/keelform/ValueType" = true := by first | (simp [plainName, overriddenIn]; done) | decide +kernel
theorem efw (m : MethodId) (x0 : Int32) : entryFrame m #[(.int x0)] 1 = mkF m 0 #[.val (.int x0)] [] := by first | (simp [entryFrame, mkF, argsToLocals, Value.category]; done) | rfl
def Qw (Z : State) (p1 : Int32) (aB : Addr) (aW : Addr) (cW : Cell) (h0 : Heap) (n0 : Nat) (v : Option Value) (h : Heap) (L : List Loc) : Prop := v = some (.int (if p1 = (0 : Int32) then (0 : Int32) else (1 : Int32))) ∧ Fr n0 L ∧ h = h0
set_option maxRecDepth 65536 in
set_option maxHeartbeats 40000000 in
theorem rmw (l : Launch) (Z : State) (a0 : Array Value) (hw : ∀ d ∈ tables_1, d.before a0 Z = true) (ws : List Jvm.Cond) (p1 : Int32) (aB : Addr) (aW : Addr) (cW : Cell) (h0 : Heap) (n0 : Nat) (Z0 : n0 ≤ h0.size) (SB : Sta Z h0 "com/example/keelform/keelform/ValueType" "BOOLEAN" "Lcom/example/keelform/keelform/ValueType;" (.ref aB)) (FW : Fld Z h0 aB "com/example/keelform/keelform/ValueType" "wireTypes" "[I" (.ref aW)) (ArW : Arr Z h0 aW cW .int) (i0 : ¬ ((0 : Int32) < 0 ∨ cW.slots.size ≤ ((0 : Int32)).toNatClampNeg)) (v0 : cW.slots[((0 : Int32)).toNatClampNeg]? = some (.int (0 : Int32))) (i1 : ¬ ((1 : Int32) < 0 ∨ cW.slots.size ≤ ((1 : Int32)).toNatClampNeg)) (v1 : cW.slots[((1 : Int32)).toNatClampNeg]? = some (.int (1 : Int32))) :
    MetFree l (⟨"com/example/keelform/keelform/ValueType", "wireTypeOfBoolean", "(Z)I"⟩ : MethodName) (head1 (Jvm.Cond.code (⟨"com/example/keelform/keelform/ValueType", "wireTypeOfBoolean", "(Z)I"⟩ : MethodName) prog_15_method_8_code 1 (some .int) :: ws) ({ frames := 0, cells := 0, slots := 0, locals := 0 } : Room)) (fun aQ UQ => aQ = #[(.int p1)] ∧ Z.Warmed39 UQ.vm ∧ UQ.heap = h0) (fun _ _ _ _ _ => True) (fun _ U o U' => ∃ v L, o = .returned v ∧ Qw Z p1 aB aW cW h0 n0 v U'.heap L ∧ FrameEnd U o U' L ({ frames := 0, cells := 0, slots := 0, locals := 0 } : Room).cells ({ frames := 0, cells := 0, slots := 0, locals := 0 } : Room).slots) := by
  refine MetFree.of_bodySF (plainFor_of_name pnw) hisR ?_
  intro p e s m args below meth c s₁ Bd hml0 hP hK
  obtain ⟨rfl, hZ, hh⟩ := hP
  have hx := Bd.exec
  have hby := Bd.bytes
  have hml : c.maxLocals = 1 := hml0
  have hown : s.vm.findClass "com/example/keelform/keelform/ValueType" = some m.cls := findClass_of_methodNamed Bd.named
  have hnm := (name_of_methodNamed Bd.named Bd.method).1
  have X0 : Stand p l e ({ frames := 0, cells := 0, slots := 0, locals := 0 } : Room) s m #[(.int p1)] below meth c s₁ [] 0 0 := Stand.of_body Bd
  have e0 : s₁.heap = h0 := by rw [← hh, Bd.state]; rfl
  have N0 := Fr.nil n0
  show OGo p e below (OPost s (Qw Z p1 aB aW cW h0 n0) ({ frames := 0, cells := 0, slots := 0, locals := 0 } : Room).cells ({ frames := 0, cells := 0, slots := 0, locals := 0 } : Room).slots) (s₁.setTop (entryFrame m #[(.int p1)] 1))
  refine OGo.step (fun uK kK => castTop (efw m p1) kK) ?_
  show OGo p e below _ (s₁.setTop (mkF m 0 #[.val (.int p1)] []))
  obtain ⟨T1, X1, e1, st1⟩ := getS2 X0 hx hZ hown (host := "") (Or.inl (hw _ (List.mem_of_getElem? (i := 4) rfl))) Via.refl e0 SB (g := (mkF m 0 #[.val (.int p1)] [])) rfl (hb hby d1_0)
  refine OGo.step (fun uK kK => st1 uK kK) ?_
  show OGo p e below _ (T1.setTop (mkF m 3 #[.val (.int p1)] [(.ref aB)]))
  obtain ⟨T2, X2, e2, st2⟩ := getF X1 hx hZ hown (host := "") (Or.inl (hw _ (List.mem_of_getElem? (i := 6) rfl))) Via.refl e1 FW (g := (mkF m 3 #[.val (.int p1)] [(.ref aB)])) rfl rfl (hb hby d1_3)
  refine OGo.step (fun uK kK => st2 uK kK) ?_
  show OGo p e below _ (T2.setTop (mkF m 6 #[.val (.int p1)] [(.ref aW)]))
  refine OGo.step (fun uK kK => XS.iloadN X2.here hx rfl (hb hby d1_6) rfl kK) ?_
  show OGo p e below _ (T2.setTop (mkF m 7 #[.val (.int p1)] [(.int p1), (.ref aW)]))
  by_cases hc7 : p1 = (0 : Int32)
  · skip
    refine OGo.step (fun uK kK => XS.ifYes X2.here hx rfl (pc0 := 7) (pc' := 14) rfl (hb hby d1_7) rfl ((if0 _ _).trans (teq hc7).1) (by decide) (by decide) kK) ?_
    show OGo p e below _ (T2.setTop (mkF m 14 #[.val (.int p1)] [(.ref aW)]))
    refine OGo.step (fun uK kK => XS.iconst X2.here hx rfl (hb hby d1_14) kK) ?_
    show OGo p e below _ (T2.setTop (mkF m 15 #[.val (.int p1)] [(.int (0 : Int32)), (.ref aW)]))
    refine OGo.step (fun uK kK => X2.iaload hx (j := (0 : Int32)) (v := (.int (0 : Int32))) (by rw [e2]; exact ArW.1) (State.isArrayOf_alike hZ.alike ArW.2.1) ArW.2.2 i0 v0 (g := (mkF m 15 #[.val (.int p1)] [(.int (0 : Int32)), (.ref aW)])) rfl rfl (hb hby d1_15) uK kK) ?_
    show OGo p e below _ (T2.setTop (mkF m 16 #[.val (.int p1)] [(.int (0 : Int32))]))
    exact OGo.retI X2 hx Bd.notSynchronized Bd.returns (hb hby d1_16) (by decide) (by decide) (by show Qw Z p1 aB aW cW h0 n0 _ T2.heap _; rw [e2]; exact ⟨by rw [if_pos hc7], N0, rfl⟩)
  · skip
    refine OGo.step (fun uK kK => XS.ifNo X2.here hx rfl (hb hby d1_7) rfl ((if0 _ _).trans (feq hc7).1) kK) ?_
    show OGo p e below _ (T2.setTop (mkF m 10 #[.val (.int p1)] [(.ref aW)]))
    refine OGo.step (fun uK kK => XS.iconst X2.here hx rfl (hb hby d1_10) kK) ?_
    show OGo p e below _ (T2.setTop (mkF m 11 #[.val (.int p1)] [(.int (1 : Int32)), (.ref aW)]))
    refine OGo.step (fun uK kK => XS.goto X2.here hx rfl (pc0 := 11) (pc' := 15) rfl (hb hby d1_11) (by decide) (by decide) kK) ?_
    show OGo p e below _ (T2.setTop (mkF m 15 #[.val (.int p1)] [(.int (1 : Int32)), (.ref aW)]))
    refine OGo.step (fun uK kK => X2.iaload hx (j := (1 : Int32)) (v := (.int (1 : Int32))) (by rw [e2]; exact ArW.1) (State.isArrayOf_alike hZ.alike ArW.2.1) ArW.2.2 i1 v1 (g := (mkF m 15 #[.val (.int p1)] [(.int (1 : Int32)), (.ref aW)])) rfl rfl (hb hby d1_15) uK kK) ?_
    show OGo p e below _ (T2.setTop (mkF m 16 #[.val (.int p1)] [(.int (1 : Int32))]))
    exact OGo.retI X2 hx Bd.notSynchronized Bd.returns (hb hby d1_16) (by decide) (by decide) (by show Qw Z p1 aB aW cW h0 n0 _ T2.heap _; rw [e2]; exact ⟨by rw [if_neg hc7], N0, rfl⟩)
theorem d2_0 : decode prog_15_method_4_code 0 = .ok (.getstatic 52, 3) := by decide +kernel
theorem d2_3 : decode prog_15_method_4_code 3 = .ok (.iload_n 0, 1) := by decide +kernel
theorem d2_4 : decode prog_15_method_4_code 4 = .ok (.aaload, 1) := by decide +kernel
theorem d2_5 : decode prog_15_method_4_code 5 = .ok (.areturn, 1) := by decide +kernel
theorem pno : plainName "com/example/keelform/keelform/ValueType" = true := by first | (simp [plainName, overriddenIn]; done) | decide +kernel
theorem efo (m : MethodId) (x0 : Int32) : entryFrame m #[(.int x0)] 1 = mkF m 0 #[.val (.int x0)] [] := by first | (simp [entryFrame, mkF, argsToLocals, Value.category]; done) | rfl
def Qo (Z : State) (p1 : Int32) (aB : Addr) (aT : Addr) (cT : Cell) (h0 : Heap) (n0 : Nat) (v : Option Value) (h : Heap) (L : List Loc) : Prop := v = some (.ref aB) ∧ Fr n0 L ∧ h = h0
set_option maxRecDepth 65536 in
set_option maxHeartbeats 40000000 in
theorem rmo (l : Launch) (Z : State) (a0 : Array Value) (hw : ∀ d ∈ tables_1, d.before a0 Z = true) (ws : List Jvm.Cond) (p1 : Int32) (aB : Addr) (aT : Addr) (cT : Cell) (h0 : Heap) (n0 : Nat) (Z0 : n0 ≤ h0.size) (ST : Sta Z h0 "com/example/keelform/keelform/ValueType" "BY_WIRE_TYPE" "[Lcom/example/keelform/keelform/ValueType;" (.ref aT)) (ArT : Arr Z h0 aT cT (.object "com/example/keelform/keelform/ValueType")) (hin : ¬ (p1 < 0 ∨ cT.slots.size ≤ (p1).toNatClampNeg)) (hat : cT.slots[(p1).toNatClampNeg]? = some (.ref aB)) :
    MetFree l (⟨"com/example/keelform/keelform/ValueType", "ofWireType", "(I)Lcom/example/keelform/keelform/ValueType;"⟩ : MethodName) (head1 (Jvm.Cond.code (⟨"com/example/keelform/keelform/ValueType", "ofWireType", "(I)Lcom/example/keelform/keelform/ValueType;"⟩ : MethodName) prog_15_method_4_code 1 (some (.object "com/example/keelform/keelform/ValueType")) :: ws) ({ frames := 0, cells := 0, slots := 0, locals := 0 } : Room)) (fun aQ UQ => aQ = #[(.int p1)] ∧ Z.Warmed39 UQ.vm ∧ UQ.heap = h0) (fun _ _ _ _ _ => True) (fun _ U o U' => ∃ v L, o = .returned v ∧ Qo Z p1 aB aT cT h0 n0 v U'.heap L ∧ FrameEnd U o U' L ({ frames := 0, cells := 0, slots := 0, locals := 0 } : Room).cells ({ frames := 0, cells := 0, slots := 0, locals := 0 } : Room).slots) := by
  refine MetFree.of_bodySF (plainFor_of_name pno) hisR ?_
  intro p e s m args below meth c s₁ Bd hml0 hP hK
  obtain ⟨rfl, hZ, hh⟩ := hP
  have hx := Bd.exec
  have hby := Bd.bytes
  have hml : c.maxLocals = 1 := hml0
  have hown : s.vm.findClass "com/example/keelform/keelform/ValueType" = some m.cls := findClass_of_methodNamed Bd.named
  have hnm := (name_of_methodNamed Bd.named Bd.method).1
  have X0 : Stand p l e ({ frames := 0, cells := 0, slots := 0, locals := 0 } : Room) s m #[(.int p1)] below meth c s₁ [] 0 0 := Stand.of_body Bd
  have e0 : s₁.heap = h0 := by rw [← hh, Bd.state]; rfl
  have N0 := Fr.nil n0
  show OGo p e below (OPost s (Qo Z p1 aB aT cT h0 n0) ({ frames := 0, cells := 0, slots := 0, locals := 0 } : Room).cells ({ frames := 0, cells := 0, slots := 0, locals := 0 } : Room).slots) (s₁.setTop (entryFrame m #[(.int p1)] 1))
  refine OGo.step (fun uK kK => castTop (efo m p1) kK) ?_
  show OGo p e below _ (s₁.setTop (mkF m 0 #[.val (.int p1)] []))
  obtain ⟨T1, X1, e1, st1⟩ := getS2 X0 hx hZ hown (host := "") (Or.inl (hw _ (List.mem_of_getElem? (i := 11) rfl))) Via.refl e0 ST (g := (mkF m 0 #[.val (.int p1)] [])) rfl (hb hby d2_0)
  refine OGo.step (fun uK kK => st1 uK kK) ?_
  show OGo p e below _ (T1.setTop (mkF m 3 #[.val (.int p1)] [(.ref aT)]))
  refine OGo.step (fun uK kK => XS.iloadN X1.here hx rfl (hb hby d2_3) rfl kK) ?_
  show OGo p e below _ (T1.setTop (mkF m 4 #[.val (.int p1)] [(.int p1), (.ref aT)]))
  refine OGo.step (fun uK kK => X1.aaload hx (j := p1) (v := (.ref aB)) (by rw [e1]; exact ArT.1) (State.isArrayOf_alike hZ.alike ArT.2.1) rfl ArT.2.2 hin hat (g := (mkF m 4 #[.val (.int p1)] [(.int p1), (.ref aT)])) rfl rfl (hb hby d2_4) uK kK) ?_
  show OGo p e below _ (T1.setTop (mkF m 5 #[.val (.int p1)] [(.ref aB)]))
  exact OGo.retR X1 hx Bd.notSynchronized Bd.returns rfl rfl (hb hby d2_5) (by decide) (by decide) (by show Qo Z p1 aB aT cT h0 n0 _ T1.heap _; rw [e1]; exact ⟨rfl, N0, rfl⟩)
theorem pn0 : plainName "com/example/keelform/keelform/ValueTypeWireTypeOfBooleanPinLaw" = true := by first | (simp [plainName, overriddenIn]; done) | decide +kernel
theorem pd0_0 : parseMethodDescriptor "(Z)I" = some ⟨[.boolean], some .int⟩ := by decide +kernel
theorem pd0_1 : parseMethodDescriptor "(I)Lcom/example/keelform/keelform/ValueType;" = some ⟨[.int], some (.object "com/example/keelform/keelform/ValueType")⟩ := by decide +kernel
theorem pd0_2 : parseMethodDescriptor "(I)Z" = some ⟨[.int], some .boolean⟩ := by decide +kernel
theorem ef0 (m : MethodId) (x0 : Int32) : entryFrame m #[(.int x0)] maxLocals = mkF m 0 #[.val (.int x0), .unset, .unset, .unset] [] := by first | (simp [entryFrame, mkF, argsToLocals, Value.category, maxLocals]; done) | rfl
def Q0 (Z : State) (z0 : Int32) (aB : Addr) (aW : Addr) (aT : Addr) (cW : Cell) (cT : Cell) (h0 : Heap) (n0 : Nat) (v : Option Value) (h : Heap) (L : List Loc) : Prop := v = some (.int 1) ∧ Fr n0 L
set_option maxRecDepth 65536 in
set_option maxHeartbeats 40000000 in
theorem rm0 (l : Launch) (Z : State) (a0 : Array Value) (hw : ∀ d ∈ tables_1, d.before a0 Z = true) (ws : List Jvm.Cond) (z0 : Int32) (aB : Addr) (aW : Addr) (aT : Addr) (cW : Cell) (cT : Cell) (h0 : Heap) (n0 : Nat) (Z0 : n0 ≤ h0.size) (SB : Sta Z h0 "com/example/keelform/keelform/ValueType" "BOOLEAN" "Lcom/example/keelform/keelform/ValueType;" (.ref aB)) (FW : Fld Z h0 aB "com/example/keelform/keelform/ValueType" "wireTypes" "[I" (.ref aW)) (ArW : Arr Z h0 aW cW .int) (i0 : ¬ ((0 : Int32) < 0 ∨ cW.slots.size ≤ ((0 : Int32)).toNatClampNeg)) (v0 : cW.slots[((0 : Int32)).toNatClampNeg]? = some (.int (0 : Int32))) (i1 : ¬ ((1 : Int32) < 0 ∨ cW.slots.size ≤ ((1 : Int32)).toNatClampNeg)) (v1 : cW.slots[((1 : Int32)).toNatClampNeg]? = some (.int (1 : Int32))) (ST : Sta Z h0 "com/example/keelform/keelform/ValueType" "BY_WIRE_TYPE" "[Lcom/example/keelform/keelform/ValueType;" (.ref aT)) (ArT : Arr Z h0 aT cT (.object "com/example/keelform/keelform/ValueType")) (ti0 : ¬ ((0 : Int32) < 0 ∨ cT.slots.size ≤ ((0 : Int32)).toNatClampNeg)) (tv0 : cT.slots[((0 : Int32)).toNatClampNeg]? = some (.ref aB)) (ti1 : ¬ ((1 : Int32) < 0 ∨ cT.slots.size ≤ ((1 : Int32)).toNatClampNeg)) (tv1 : cT.slots[((1 : Int32)).toNatClampNeg]? = some (.ref aB)) :
    MetFree l x (head1 (Jvm.Cond.code x code maxLocals ret :: ws) room_1) (fun aQ UQ => aQ = #[(.int z0)] ∧ Z.Warmed39 UQ.vm ∧ UQ.heap = h0) (fun _ _ _ _ _ => True) (fun _ U o U' => ∃ v L, o = .returned v ∧ Q0 Z z0 aB aW aT cW cT h0 n0 v U'.heap L ∧ FrameEnd U o U' L room_1.cells room_1.slots) := by
  refine MetFree.of_bodySF (plainFor_of_name pn0) hisR ?_
  intro p e s m args below meth c s₁ Bd hml0 hP hK
  obtain ⟨rfl, hZ, hh⟩ := hP
  have hx := Bd.exec
  have hby := Bd.bytes
  have hml : c.maxLocals = 4 := hml0
  have hown : s.vm.findClass "com/example/keelform/keelform/ValueTypeWireTypeOfBooleanPinLaw" = some m.cls := findClass_of_methodNamed Bd.named
  have hnm := (name_of_methodNamed Bd.named Bd.method).1
  have X0 : Stand p l e room_1 s m #[(.int z0)] below meth c s₁ [] 0 0 := Stand.of_body Bd
  have e0 : s₁.heap = h0 := by rw [← hh, Bd.state]; rfl
  have N0 := Fr.nil n0
  show OGo p e below (OPost s (Q0 Z z0 aB aW aT cW cT h0 n0) room_1.cells room_1.slots) (s₁.setTop (entryFrame m #[(.int z0)] maxLocals))
  refine OGo.step (fun uK kK => castTop (ef0 m z0) kK) ?_
  show OGo p e below _ (s₁.setTop (mkF m 0 #[.val (.int z0), .unset, .unset, .unset] []))
  refine OGo.step (fun uK kK => XS.iloadN X0.here hx rfl (hb hby at_0) rfl kK) ?_
  show OGo p e below _ (s₁.setTop (mkF m 1 #[.val (.int z0), .unset, .unset, .unset] [(.int z0)]))
  refine OGo.step (fun uK kK => XS.iconst X0.here hx rfl (hb hby at_1) kK) ?_
  show OGo p e below _ (s₁.setTop (mkF m 2 #[.val (.int z0), .unset, .unset, .unset] [(.int (1 : Int32)), (.int z0)]))
  refine OGo.step (fun uK kK => XS.iand X0.here hx rfl (hb hby at_2) rfl kK) ?_
  show OGo p e below _ (s₁.setTop (mkF m 3 #[.val (.int z0), .unset, .unset, .unset] [(.int (z0 &&& (1 : Int32)))]))
  refine OGo.step (t' := s₁.setTop (mkF m 11 #[.val (.int z0), .unset, .unset, .unset] [(.int (if (z0 &&& (1 : Int32)) = (0 : Int32) then (0 : Int32) else (1 : Int32)))])) (fun uK kK => ?_) ?_
  · show Steps p.tables e below (s₁.setTop (mkF m 3 #[.val (.int z0), .unset, .unset, .unset] [(.int (z0 &&& (1 : Int32)))])) _
    by_cases hm3_1 : (z0 &&& (1 : Int32)) = (0 : Int32)
    · try rw [if_pos hm3_1] at kK
      refine XS.ifYes X0.here hx rfl (pc0 := 3) (pc' := 10) rfl (hb hby at_3) rfl ((if0 _ _).trans (teq hm3_1).1) (by decide) (by decide) ?_
      refine XS.iconst X0.here hx rfl (hb hby at_10) ?_
      show Steps p.tables e below (s₁.setTop (mkF m 11 #[.val (.int z0), .unset, .unset, .unset] [(.int (0 : Int32))])) _
      exact kK
    · try rw [if_neg hm3_1] at kK
      refine XS.ifNo X0.here hx rfl (hb hby at_3) rfl ((if0 _ _).trans (feq hm3_1).1) ?_
      refine XS.iconst X0.here hx rfl (hb hby at_6) ?_
      show Steps p.tables e below (s₁.setTop (mkF m 7 #[.val (.int z0), .unset, .unset, .unset] [(.int (1 : Int32))])) _
      refine XS.goto X0.here hx rfl (pc0 := 7) (pc' := 11) rfl (hb hby at_7) (by decide) (by decide) ?_
      show Steps p.tables e below (s₁.setTop (mkF m 11 #[.val (.int z0), .unset, .unset, .unset] [(.int (1 : Int32))])) _
      exact kK
  show OGo p e below _ (s₁.setTop (mkF m 11 #[.val (.int z0), .unset, .unset, .unset] [(.int (if (z0 &&& (1 : Int32)) = (0 : Int32) then (0 : Int32) else (1 : Int32)))]))
  obtain ⟨vv, ev_vv⟩ : ∃ z : Int32, z = (if (z0 &&& (1 : Int32)) = (0 : Int32) then (0 : Int32) else (1 : Int32)) := ⟨_, rfl⟩
  rw [← ev_vv]
  show OGo p e below _ (s₁.setTop (mkF m 11 #[.val (.int z0), .unset, .unset, .unset] [(.int vv)]))
  refine OGo.step (fun uK kK => XS.istoreN X0.here hx rfl (hb hby at_11) rfl (l' := #[.val (.int z0), .val (.int vv), .unset, .unset]) rfl kK) ?_
  show OGo p e below _ (s₁.setTop (mkF m 12 #[.val (.int z0), .val (.int vv), .unset, .unset] []))
  refine OGo.step (fun uK kK => XS.iloadN X0.here hx rfl (hb hby at_12) rfl kK) ?_
  show OGo p e below _ (s₁.setTop (mkF m 13 #[.val (.int z0), .val (.int vv), .unset, .unset] [(.int vv)]))
  obtain ⟨_, _, ⟨T2, Lq2, kq_2, nq_2⟩, -, X2, ⟨Lc2, hQ2, lq2, yq2, zq2⟩, st2⟩ := Jvm.LawKit.callS X0 hx (y := (⟨"com/example/keelform/keelform/ValueType", "wireTypeOfBoolean", "(Z)I"⟩ : MethodName)) hown (mvT hZ (hw _ (List.mem_of_getElem? (i := 0) rfl))) (mvT hZ (hw _ (List.mem_of_getElem? (i := 1) rfl))) (mvT hZ (hw _ (List.mem_of_getElem? (i := 2) rfl))) (mvT hZ (hw _ (List.mem_of_getElem? (i := 3) rfl))) (by decide) (backOf (W := 0) (rmw l Z a0 hw [] vv aB aW cW h0 n0 Z0 SB FW ArW i0 v0 i1 v1) hZ (hw _ (List.mem_of_getElem? (i := 3) rfl)) (hw _ (List.mem_of_getElem? (i := 2) rfl)) (by decide) (by decide)) (g := (mkF m 13 #[.val (.int z0), .val (.int vv), .unset, .unset] [(.int vv)])) rfl (by rw [hml]; rfl) (argsL := [(.int vv)]) (rest := []) (lenOf pd0_0 rfl) rfl (by show 2 * 0 + _ ≤ _; exact Nat.le_of_eq rfl) (hb hby at_13) (fun _ _ => ⟨rfl, e0, (by decide : 0 + 0 ≤ _), (by decide : 0 + 0 ≤ _)⟩)
  dsimp only [Pt.U, Pt.locs, Pt.cells, Pt.slots] at X2 lq2 yq2 zq2 st2 hQ2
  subst lq2 yq2 zq2
  obtain ⟨rfl, Nq2, e2⟩ := hQ2
  have N2 := Fr.app N0 Nq2
  refine OGo.step (fun uK kK => st2 uK kK) ?_
  show OGo p e below _ (T2.setTop (mkF m 16 #[.val (.int z0), .val (.int vv), .unset, .unset] [(.int (if vv = (0 : Int32) then (0 : Int32) else (1 : Int32)))]))
  obtain ⟨ww, ev_ww⟩ : ∃ z : Int32, z = (if vv = (0 : Int32) then (0 : Int32) else (1 : Int32)) := ⟨_, rfl⟩
  rw [← ev_ww]
  show OGo p e below _ (T2.setTop (mkF m 16 #[.val (.int z0), .val (.int vv), .unset, .unset] [(.int ww)]))
  refine OGo.step (fun uK kK => XS.istoreN X2.here hx rfl (hb hby at_16) rfl (l' := #[.val (.int z0), .val (.int vv), .val (.int ww), .unset]) rfl kK) ?_
  show OGo p e below _ (T2.setTop (mkF m 17 #[.val (.int z0), .val (.int vv), .val (.int ww), .unset] []))
  have h01 : ww = (0 : Int32) ∨ ww = (1 : Int32) := by rw [ev_ww]; split <;> simp
  have hinT : ¬ (ww < 0 ∨ cT.slots.size ≤ (ww).toNatClampNeg) := by rcases h01 with h | h <;> rw [h] <;> assumption
  have hatT : cT.slots[(ww).toNatClampNeg]? = some (.ref aB) := by rcases h01 with h | h <;> rw [h] <;> assumption
  refine OGo.step (fun uK kK => XS.iloadN X2.here hx rfl (hb hby at_17) rfl kK) ?_
  show OGo p e below _ (T2.setTop (mkF m 18 #[.val (.int z0), .val (.int vv), .val (.int ww), .unset] [(.int vv)]))
  refine OGo.step (t' := T2.setTop (mkF m 26 #[.val (.int z0), .val (.int vv), .val (.int ww), .unset] [(.int (if vv = (0 : Int32) then (0 : Int32) else (1 : Int32)))])) (fun uK kK => ?_) ?_
  · show Steps p.tables e below (T2.setTop (mkF m 18 #[.val (.int z0), .val (.int vv), .val (.int ww), .unset] [(.int vv)])) _
    by_cases hm18_3 : vv = (0 : Int32)
    · try rw [if_pos hm18_3] at kK
      refine XS.ifYes X2.here hx rfl (pc0 := 18) (pc' := 25) rfl (hb hby at_18) rfl ((if0 _ _).trans (teq hm18_3).1) (by decide) (by decide) ?_
      refine XS.iconst X2.here hx rfl (hb hby at_25) ?_
      show Steps p.tables e below (T2.setTop (mkF m 26 #[.val (.int z0), .val (.int vv), .val (.int ww), .unset] [(.int (0 : Int32))])) _
      exact kK
    · try rw [if_neg hm18_3] at kK
      refine XS.ifNo X2.here hx rfl (hb hby at_18) rfl ((if0 _ _).trans (feq hm18_3).1) ?_
      refine XS.iconst X2.here hx rfl (hb hby at_21) ?_
      show Steps p.tables e below (T2.setTop (mkF m 22 #[.val (.int z0), .val (.int vv), .val (.int ww), .unset] [(.int (1 : Int32))])) _
      refine XS.goto X2.here hx rfl (pc0 := 22) (pc' := 26) rfl (hb hby at_22) (by decide) (by decide) ?_
      show Steps p.tables e below (T2.setTop (mkF m 26 #[.val (.int z0), .val (.int vv), .val (.int ww), .unset] [(.int (1 : Int32))])) _
      exact kK
  show OGo p e below _ (T2.setTop (mkF m 26 #[.val (.int z0), .val (.int vv), .val (.int ww), .unset] [(.int (if vv = (0 : Int32) then (0 : Int32) else (1 : Int32)))]))
  obtain ⟨ee, ev_ee⟩ : ∃ z : Int32, z = (if vv = (0 : Int32) then (0 : Int32) else (1 : Int32)) := ⟨_, rfl⟩
  rw [← ev_ee]
  show OGo p e below _ (T2.setTop (mkF m 26 #[.val (.int z0), .val (.int vv), .val (.int ww), .unset] [(.int ee)]))
  refine OGo.step (fun uK kK => XS.istoreN X2.here hx rfl (hb hby at_26) rfl (l' := #[.val (.int z0), .val (.int vv), .val (.int ww), .val (.int ee)]) rfl kK) ?_
  show OGo p e below _ (T2.setTop (mkF m 27 #[.val (.int z0), .val (.int vv), .val (.int ww), .val (.int ee)] []))
  refine OGo.step (fun uK kK => XS.iloadN X2.here hx rfl (hb hby at_27) rfl kK) ?_
  show OGo p e below _ (T2.setTop (mkF m 28 #[.val (.int z0), .val (.int vv), .val (.int ww), .val (.int ee)] [(.int ww)]))
  refine OGo.step (fun uK kK => XS.iloadN X2.here hx rfl (hb hby at_28) rfl kK) ?_
  show OGo p e below _ (T2.setTop (mkF m 29 #[.val (.int z0), .val (.int vv), .val (.int ww), .val (.int ee)] [(.int ee), (.int ww)]))
  have hc29 : ww = ee := by rw [ev_ww, ev_ee]
  refine OGo.step (fun uK kK => XS.icmpYes X2.here hx rfl (pc0 := 29) (pc' := 34) rfl (hb hby at_29) rfl (teq hc29).1 (by decide) (by decide) kK) ?_
  show OGo p e below _ (T2.setTop (mkF m 34 #[.val (.int z0), .val (.int vv), .val (.int ww), .val (.int ee)] []))
  refine OGo.step (fun uK kK => XS.iloadN X2.here hx rfl (hb hby at_34) rfl kK) ?_
  show OGo p e below _ (T2.setTop (mkF m 35 #[.val (.int z0), .val (.int vv), .val (.int ww), .val (.int ee)] [(.int ww)]))
  obtain ⟨_, _, ⟨T4, Lq4, kq_4, nq_4⟩, -, X4, ⟨Lc4, hQ4, lq4, yq4, zq4⟩, st4⟩ := Jvm.LawKit.callS X2 hx (y := (⟨"com/example/keelform/keelform/ValueType", "ofWireType", "(I)Lcom/example/keelform/keelform/ValueType;"⟩ : MethodName)) hown (mvT hZ (hw _ (List.mem_of_getElem? (i := 8) rfl))) (mvT hZ (hw _ (List.mem_of_getElem? (i := 9) rfl))) (mvT hZ (hw _ (List.mem_of_getElem? (i := 2) rfl))) (mvT hZ (hw _ (List.mem_of_getElem? (i := 10) rfl))) (by decide) (backOf (W := 0) (rmo l Z a0 hw [] ww aB aT cT h0 n0 Z0 ST ArT hinT hatT) hZ (hw _ (List.mem_of_getElem? (i := 10) rfl)) (hw _ (List.mem_of_getElem? (i := 2) rfl)) (by decide) (by decide)) (g := (mkF m 35 #[.val (.int z0), .val (.int vv), .val (.int ww), .val (.int ee)] [(.int ww)])) rfl (by rw [hml]; rfl) (argsL := [(.int ww)]) (rest := []) (lenOf pd0_1 rfl) rfl (by show 2 * 0 + _ ≤ _; exact Nat.le_of_eq rfl) (hb hby at_35) (fun _ _ => ⟨rfl, e2, (by decide : 0 + 0 ≤ _), (by decide : 0 + 0 ≤ _)⟩)
  dsimp only [Pt.U, Pt.locs, Pt.cells, Pt.slots] at X4 lq4 yq4 zq4 st4 hQ4
  subst lq4 yq4 zq4
  obtain ⟨rfl, Nq4, e4⟩ := hQ4
  have N4 := Fr.app N2 Nq4
  refine OGo.step (fun uK kK => st4 uK kK) ?_
  show OGo p e below _ (T4.setTop (mkF m 38 #[.val (.int z0), .val (.int vv), .val (.int ww), .val (.int ee)] [(.ref aB)]))
  obtain ⟨T5, X5, e5, st5⟩ := getS2 X4 hx hZ hown (host := "") (Or.inl (hw _ (List.mem_of_getElem? (i := 13) rfl))) Via.refl e4 SB (g := (mkF m 38 #[.val (.int z0), .val (.int vv), .val (.int ww), .val (.int ee)] [(.ref aB)])) rfl (hb hby at_38)
  refine OGo.step (fun uK kK => st5 uK kK) ?_
  show OGo p e below _ (T5.setTop (mkF m 41 #[.val (.int z0), .val (.int vv), .val (.int ww), .val (.int ee)] [(.ref aB), (.ref aB)]))
  refine OGo.step (fun uK kK => Jvm.RoadKit.acmp (g := (mkF m 41 #[.val (.int z0), .val (.int vv), .val (.int ww), .val (.int ee)] [(.ref aB), (.ref aB)])) X5 hx rfl rfl rfl (pc0 := 41) (pc' := 46) (same := true) rfl (hb hby at_41) rfl (decide_eq_true rfl) (by decide) (by decide) kK) ?_
  show OGo p e below _ (T5.setTop (mkF m 46 #[.val (.int z0), .val (.int vv), .val (.int ww), .val (.int ee)] []))
  refine OGo.step (fun uK kK => XS.iloadN X5.here hx rfl (hb hby at_46) rfl kK) ?_
  show OGo p e below _ (T5.setTop (mkF m 47 #[.val (.int z0), .val (.int vv), .val (.int ww), .val (.int ee)] [(.int ww)]))
  obtain ⟨_, _, ⟨T6, Lq6, kq_6, nq_6⟩, -, X6, ⟨Lc6, hQ6, lq6, yq6, zq6⟩, st6⟩ := Jvm.LawKit.callS X5 hx (y := (⟨"com/example/keelform/keelform/ValueType", "booleanOfWireType", "(I)Z"⟩ : MethodName)) hown (mvT hZ (hw _ (List.mem_of_getElem? (i := 14) rfl))) (mvT hZ (hw _ (List.mem_of_getElem? (i := 15) rfl))) (mvT hZ (hw _ (List.mem_of_getElem? (i := 2) rfl))) (mvT hZ (hw _ (List.mem_of_getElem? (i := 16) rfl))) (by decide) (backOf (W := 0) (rmb l Z a0 hw [] ww aB aW cW h0 n0 Z0 SB FW ArW i1 v1) hZ (hw _ (List.mem_of_getElem? (i := 16) rfl)) (hw _ (List.mem_of_getElem? (i := 2) rfl)) (by decide) (by decide)) (g := (mkF m 47 #[.val (.int z0), .val (.int vv), .val (.int ww), .val (.int ee)] [(.int ww)])) rfl (by rw [hml]; rfl) (argsL := [(.int ww)]) (rest := []) (lenOf pd0_2 rfl) rfl (by show 2 * 0 + _ ≤ _; exact Nat.le_of_eq rfl) (hb hby at_47) (fun _ _ => ⟨rfl, e5, (by decide : 0 + 0 ≤ _), (by decide : 0 + 0 ≤ _)⟩)
  dsimp only [Pt.U, Pt.locs, Pt.cells, Pt.slots] at X6 lq6 yq6 zq6 st6 hQ6
  subst lq6 yq6 zq6
  obtain ⟨rfl, Nq6, e6⟩ := hQ6
  have N6 := Fr.app N4 Nq6
  refine OGo.step (fun uK kK => st6 uK kK) ?_
  show OGo p e below _ (T6.setTop (mkF m 50 #[.val (.int z0), .val (.int vv), .val (.int ww), .val (.int ee)] [(.int (nar .boolean (if ww = (1 : Int32) then (1 : Int32) else (0 : Int32))))]))
  refine OGo.step (fun uK kK => XS.iloadN X6.here hx rfl (hb hby at_50) rfl kK) ?_
  show OGo p e below _ (T6.setTop (mkF m 51 #[.val (.int z0), .val (.int vv), .val (.int ww), .val (.int ee)] [(.int vv), (.int (nar .boolean (if ww = (1 : Int32) then (1 : Int32) else (0 : Int32))))]))
  have hc51 : (nar .boolean (if ww = (1 : Int32) then (1 : Int32) else (0 : Int32))) = vv := by rw [own_nb, ev_ww, ev_vv]; by_cases h : (z0 &&& (1 : Int32)) = (0 : Int32) <;> simp [h]
  refine OGo.step (fun uK kK => XS.icmpNo X6.here hx rfl (hb hby at_51) rfl (teq hc51).2 kK) ?_
  show OGo p e below _ (T6.setTop (mkF m 54 #[.val (.int z0), .val (.int vv), .val (.int ww), .val (.int ee)] []))
  refine OGo.step (fun uK kK => XS.iconst X6.here hx rfl (hb hby at_54) kK) ?_
  show OGo p e below _ (T6.setTop (mkF m 55 #[.val (.int z0), .val (.int vv), .val (.int ww), .val (.int ee)] [(.int (1 : Int32))]))
  refine OGo.step (fun uK kK => XS.goto X6.here hx rfl (pc0 := 55) (pc' := 59) rfl (hb hby at_55) (by decide) (by decide) kK) ?_
  show OGo p e below _ (T6.setTop (mkF m 59 #[.val (.int z0), .val (.int vv), .val (.int ww), .val (.int ee)] [(.int (1 : Int32))]))
  exact OGo.retN X6 hx Bd.notSynchronized (t := .boolean) Bd.returns (by simp) (hb hby at_59) (by decide) (by decide) (by show Q0 Z z0 aB aW aT cW cT h0 n0 _ T6.heap _; rw [e6]; exact ⟨rfl, N6⟩)
set_option maxRecDepth 65536 in
set_option maxHeartbeats 40000000 in
theorem comes_1 {Post : Tables → Env → Array Value → State → Outcome → State → Prop} (hpost : ∀ tb e args s v u, (limb_1_1.after args s (.returned v) u = true ∧ limb_1_2.after args s (.returned v) u = true ∧ True) → FrameEnd s (.returned v) u (Jvm.fieldLocs frame_1_writes args s ++ Jvm.arrayLocs frame_1_arrays args s ++ Jvm.staticLocs frame_1_statics s) 0 0 → Post tb e args s (.returned v) u) :
    ArmFor flags0 classFile x code maxLocals ret World_1 tables_1 room_1 Calls_1 rest_1 Pre_1 Post := by
  intro l hfl _ _ p e ha hc hk s m args below hf hA hF happ hP
  obtain ⟨hcalls, hrest, hpre⟩ := hP
  obtain ⟨-, -, -, hnamed, -, -, -, hat⟩ := (Spec.applies_iff hf).mp happ
  obtain ⟨hg, hn⟩ := and_e (Cond.before_iff.mp (show (Jvm.Cond.and given_1 narrow_1).before args s = true from hpre))
  obtain ⟨hcount, hg0⟩ := and_e hg
  have ga0 := hg0
  obtain ⟨w0, rfl⟩ : ∃ w0 : Value, args = #[w0] := by
    have hs : args.size = 1 := by simpa [Cond.value, given_1] using hcount
    obtain ⟨L⟩ := args
    match L, hs with
    | [w0], _ => exact ⟨w0, rfl⟩
  have hw := fun d (hd : d ∈ tables_1) => atoms_spec (ws := Jvm.Cond.code x code maxLocals ret :: tables_1) hat d (List.mem_cons_of_mem _ hd)
  have hfit : Fit s := fun {y c} hc i hi => by
    obtain ⟨ha, rfl⟩ := Array.getElem?_eq_some_iff.mp hc
    have q := List.all_eq_true.mp ((Array.all_eq_true_iff_forall_mem.mp hF) _ (Array.getElem_mem ha)) i (List.mem_range.mpr hi)
    simpa [Array.getElem?_eq_getElem hi] using q
  obtain ⟨i0, ei0⟩ := is_v ga0
  obtain rfl : w0 = (.int i0) := Option.some.inj ei0
  obtain ⟨nc0, ncr0⟩ := and_e hn
  obtain ⟨nc1, ncr1⟩ := and_e ncr0
  obtain ⟨nc2, ncr2⟩ := and_e ncr1
  obtain ⟨nc3, ncr3⟩ := and_e ncr2
  obtain ⟨nc4, ncr4⟩ := and_e ncr3
  obtain ⟨nc5, ncr5⟩ := and_e ncr4
  obtain ⟨nc6, ncr6⟩ := and_e ncr5
  obtain ⟨nc7, ncr7⟩ := and_e ncr6
  obtain ⟨nc8, ncr8⟩ := and_e ncr7
  obtain ⟨nc9, ncr9⟩ := and_e ncr8
  obtain ⟨nc10, ncr10⟩ := and_e ncr9
  obtain ⟨nc11, ncr11⟩ := and_e ncr10
  obtain ⟨nc12, ncr12⟩ := and_e ncr11
  obtain ⟨nc13, ncr13⟩ := and_e ncr12
  obtain ⟨nc14, ncr14⟩ := and_e ncr13
  obtain ⟨nc15, ncr15⟩ := and_e ncr14
  obtain ⟨nc16, ncr16⟩ := and_e ncr15
  obtain ⟨nc17, ncr17⟩ := and_e ncr16
  obtain ⟨nc18, ncr18⟩ := and_e ncr17
  obtain ⟨nc19, ncr19⟩ := and_e ncr18
  obtain ⟨nc20, ncr20⟩ := and_e ncr19
  obtain ⟨nc21, ncr21⟩ := and_e ncr20
  obtain ⟨nc22, ncr22⟩ := and_e ncr21
  obtain ⟨nc23, ncr23⟩ := and_e ncr22
  obtain ⟨nc24, ncr24⟩ := and_e ncr23
  obtain ⟨nc25, ncr25⟩ := and_e ncr24
  obtain ⟨nc26, ncr26⟩ := and_e ncr25
  obtain ⟨nc27, ncr27⟩ := and_e ncr26
  obtain ⟨nc28, ncr28⟩ := and_e ncr27
  obtain ⟨nc29, ncr29⟩ := and_e ncr28
  obtain ⟨nc30, ncr30⟩ := and_e ncr29
  obtain ⟨nc31, ncr31⟩ := and_e ncr30
  obtain ⟨nc32, ncr32⟩ := and_e ncr31
  obtain ⟨nc33, ncr33⟩ := and_e ncr32
  obtain ⟨nc34, ncr34⟩ := and_e ncr33
  obtain ⟨nc35, ncr35⟩ := and_e ncr34
  obtain ⟨nc36, ncr36⟩ := and_e ncr35
  obtain ⟨nc37, ncr37⟩ := and_e ncr36
  have nc38 := ncr37
  obtain ⟨aB, evB⟩ := exa_v nc0
  have SB := Sta.start evB (Or.inr ⟨(hw _ (List.mem_of_getElem? (i := 2) rfl)), (hw _ (List.mem_of_getElem? (i := 5) rfl))⟩)
  obtain ⟨aW, evW⟩ := arr_v nc1
  have FW := Fld.start ((fld_at evB).symm.trans evW)
  obtain ⟨kW, ArW⟩ := Arr.start evW nc1
  obtain ⟨aT, evT⟩ := arr_v nc4
  have ST := Sta.start evT (Or.inr ⟨(hw _ (List.mem_of_getElem? (i := 2) rfl)), (hw _ (List.mem_of_getElem? (i := 12) rfl))⟩)
  obtain ⟨kT, ArT⟩ := Arr.start evT nc4
  have q0 := elem_in (own_eqI nc3 rfl) evW rfl ArW.1
  have q1 := elem_in (own_eqI nc7 rfl) evW rfl ArW.1
  have q2 := elem_in (own_eqR nc6 evB) evT rfl ArT.1
  have q3 := elem_in (own_eqR nc8 evB) evT rfl ArT.1
  obtain ⟨n, o, h1, h2, h3, _, L, rfl, ⟨rfl, N⟩, hq⟩ := rm0 l s _ hw tables_1 i0 aB aW aT kW kT s.heap s.heap.size (Nat.le_refl _) SB FW ArW q0.1 q0.2 q1.1 q1.2 ST ArT q2.1 q2.2 q3.1 q3.2 p e ha hc hk s m _ below hf ((Spec.applies_iff_loose hf).mp happ).1 ⟨rfl, State.Warmed39.refl s, rfl⟩ trivial
  refine ⟨n, _, h1, h2, h3, hpost _ _ _ _ _ _ ⟨Cond.after_iff.mpr rfl, Cond.after_iff.mpr (eq_i res_at (Term.int_eval (1)) rfl), trivial⟩ ⟨hq.1, hq.2.1, (hq.2.2.sift fun y hy => Or.inr (N y hy)).mono (by decide) (by decide)⟩⟩
theorem main_1_1 : Claimed_1_1 := comes_1 fun _ _ _ _ _ _ h hF => ⟨h.1, hF⟩
theorem main_1_2 : Claimed_1_2 := comes_1 fun _ _ _ _ _ _ h hF => ⟨h.2.1, hF⟩
end Jvm.Pilot.@@N@@
namespace Jvm.Pilot.@@N@@
open Jvm Jvm.ClassFile Sem Op Lib Jvm.Free Jvm.Stand Jvm.Pilot.@@N@@.Jvm.D
/-! MADE BY PROGRAM (witnessworld.py) out of the Statement's table words and the real class files: 13 classes; the members and pool entries that the words name. The judged class is class 1, her method 1. -/
namespace start1
open Jvm.ClassFile
def u (s : String) : CpInfo := .utf8 (stringToUtf16 s)
/-- a pool by its gaps: so many unusable entries, then the entry; so many at the end -/
def gap : Nat → List CpInfo → List CpInfo
  | 0, r => r
  | n + 1, r => .unusable :: gap n r
def poolList (es : List (Nat × CpInfo)) (last : Nat) : List CpInfo := es.foldr (fun e r => gap e.1 (e.2 :: r)) (gap last [])
def pool (es : List (Nat × CpInfo)) (last : Nat) : Array CpInfo := ⟨poolList es last⟩
def fileOf (pool : Array CpInfo) (this : Nat) (attrs : Array Attribute := #[]) (ms : Array MethodInfo := #[]) (fl : Nat := 33) (sup : Nat := 0) (ifs : Array Nat := #[]) (fds : Array FieldInfo := #[]) : ClassFile where
  minorVersion := 0
  majorVersion := 65
  constantPool := pool
  accessFlags := fl
  thisClass := this
  superClass := sup
  interfaces := ifs
  fields := fds
  methods := ms
  attributes := attrs
def plain (name : String) (sup : Option ClassId) : Class where
  name := name
  kind := .ordinary
  loader := none
  accessFlags := 33
  super := sup
  interfaces := #[]
  cf := none
  fields := #[]
  methods := #[]
  instanceTypes := #[]
  staticTypes := #[]
  resolved := #[]
  callSites := []
  init := .initialized
  statics := none
  mirror := none

def pool0 : Array CpInfo := pool [(5, u "<init>"), (0, u "()V"), (1, .class_ 10), (1, u "java/lang/Object")] 113

def k0m0 : Method := { name := "<init>", desc := "()V", sig := { parameters := [], returnType := none }, accessFlags := 1, code := none }
/-- java/lang/Object -/
def k0 : Class := { plain "java/lang/Object" none with
  accessFlags := 33
  interfaces := #[]
  cf := some (fileOf pool0 8 #[] #[{ accessFlags := 1, nameIndex := 5, descriptorIndex := 6, attributes := #[] }] 33 0 #[] #[])
  fields := #[]
  methods := #[k0m0]
  instanceTypes := #[]
  staticTypes := #[]
  resolved := Array.replicate 124 none
  statics := none }

def pool1 : Array CpInfo := pool [(2, .class_ 4), (1, u "java/lang/Object"), (0, u "<init>"), (0, u "()V"), (0, .methodref 8 9), (0, .class_ 10), (0, .nameAndType 11 12), (0, u "com/example/keelform/keelform/ValueType"), (0, u "wireTypeOfBoolean"), (0, u "(Z)I"), (0, .methodref 8 14), (0, .nameAndType 15 16), (0, u "ofWireType"), (0, u "(I)Lcom/example/keelform/keelform/ValueType;"), (0, .fieldref 8 18), (0, .nameAndType 19 20), (0, u "BOOLEAN"), (0, u "Lcom/example/keelform/keelform/ValueType;"), (0, .methodref 8 22), (0, .nameAndType 23 24), (0, u "booleanOfWireType"), (0, u "(I)Z"), (0, .class_ 26), (0, u "com/example/keelform/keelform/ValueTypeWireTypeOfBooleanPinLaw"), (2, u "law")] 3

def k1m0 : Method := { name := "<init>", desc := "()V", sig := { parameters := [], returnType := none }, accessFlags := 1, code := none }
def k1c1 : Code := { maxStack := 2, maxLocals := 4, code := code, exceptionTable := #[], attributes := #[] }
def k1m1 : Method := { name := "law", desc := "(I)Z", sig := { parameters := [.int], returnType := some .boolean }, accessFlags := 9, code := some k1c1 }
/-- com/example/keelform/keelform/ValueTypeWireTypeOfBooleanPinLaw -/
def k1 : Class := { plain "com/example/keelform/keelform/ValueTypeWireTypeOfBooleanPinLaw" (some 0) with
  accessFlags := 49
  interfaces := #[]
  cf := some (fileOf pool1 25 #[] #[{ accessFlags := 1, nameIndex := 5, descriptorIndex := 6, attributes := #[] }, { accessFlags := 9, nameIndex := 29, descriptorIndex := 24, attributes := #[] }] 49 2 #[] #[])
  fields := #[]
  methods := #[k1m0, k1m1]
  instanceTypes := #[]
  staticTypes := #[]
  resolved := Array.replicate 33 none
  statics := none }

def pool2 : Array CpInfo := pool [(1, .class_ 2), (0, u "java/lang/constant/Constable"), (0, .class_ 4), (0, u "java/lang/Object")] 6

/-- java/lang/constant/Constable -/
def k2 : Class := { plain "java/lang/constant/Constable" (some 0) with
  accessFlags := 1537
  interfaces := #[]
  cf := some (fileOf pool2 1 #[] #[] 1537 3 #[] #[])
  fields := #[]
  methods := #[]
  instanceTypes := #[]
  staticTypes := #[]
  resolved := Array.replicate 11 none
  statics := none }

def pool3 : Array CpInfo := pool [(1, .class_ 2), (0, u "java/lang/Comparable"), (0, .class_ 4), (0, u "java/lang/Object")] 7

/-- java/lang/Comparable -/
def k3 : Class := { plain "java/lang/Comparable" (some 0) with
  accessFlags := 1537
  interfaces := #[]
  cf := some (fileOf pool3 1 #[] #[] 1537 3 #[] #[])
  fields := #[]
  methods := #[]
  instanceTypes := #[]
  staticTypes := #[]
  resolved := Array.replicate 12 none
  statics := none }

def pool4 : Array CpInfo := pool [(1, .class_ 2), (0, u "java/io/Serializable"), (0, .class_ 4), (0, u "java/lang/Object")] 2

/-- java/io/Serializable -/
def k4 : Class := { plain "java/io/Serializable" (some 0) with
  accessFlags := 1537
  interfaces := #[]
  cf := some (fileOf pool4 1 #[] #[] 1537 3 #[] #[])
  fields := #[]
  methods := #[]
  instanceTypes := #[]
  staticTypes := #[]
  resolved := Array.replicate 7 none
  statics := none }

def pool5 : Array CpInfo := pool [(2, .class_ 4), (1, u "java/lang/Enum"), (0, u "name"), (0, u "Ljava/lang/String;"), (2, u "ordinal"), (0, u "I"), (1, .class_ 14), (1, u "java/lang/Object"), (4, u "hash"), (86, .class_ 108), (1, u "java/lang/Enum$EnumDesc"), (2, .class_ 112), (0, u "java/lang/constant/Constable"), (0, .class_ 114), (0, u "java/lang/Comparable"), (0, .class_ 116), (0, u "java/io/Serializable")] 87

/-- java/lang/Enum -/
def k5 : Class := { plain "java/lang/Enum" (some 0) with
  accessFlags := 1057
  interfaces := #[2, 3, 4]
  cf := some (fileOf pool5 2 #[.nestMembers #[106]] #[] 1057 12 #[111, 113, 115] #[{ accessFlags := 18, nameIndex := 5, descriptorIndex := 6, attributes := #[] }, { accessFlags := 18, nameIndex := 9, descriptorIndex := 10, attributes := #[] }, { accessFlags := 2, nameIndex := 19, descriptorIndex := 10, attributes := #[] }])
  fields := #[{ name := "name", type := (.object "java/lang/String"), accessFlags := 18, slot := 0, constantValue := 0 }, { name := "ordinal", type := .int, accessFlags := 18, slot := 1, constantValue := 0 }, { name := "hash", type := .int, accessFlags := 2, slot := 2, constantValue := 0 }]
  methods := #[]
  instanceTypes := #[(.object "java/lang/String"), .int, .int]
  staticTypes := #[]
  resolved := Array.replicate 204 none
  statics := none }

def pool6 : Array CpInfo := pool [(1, .class_ 2), (0, u "com/example/keelform/keelform/ValueType"), (0, .fieldref 1 4), (0, .nameAndType 5 6), (0, u "BOOLEAN"), (0, u "Lcom/example/keelform/keelform/ValueType;"), (2, u "UNSIGNED"), (2, u "SIGNED"), (2, u "BYTES"), (2, u "STRING"), (2, u "MESSAGE"), (2, u "SEQUENCE"), (2, u "$VALUES"), (0, u "[Lcom/example/keelform/keelform/ValueType;"), (6, .class_ 37), (1, u "java/lang/Enum"), (8, u "letter"), (0, u "B"), (0, .fieldref 1 49), (0, .nameAndType 50 51), (0, u "wireTypes"), (0, u "[I"), (0, .fieldref 1 53), (0, .nameAndType 54 28), (0, u "BY_WIRE_TYPE"), (12, u "ELEMENT_TYPES"), (0, u "Ljava/util/Set;"), (50, u "ofWireType"), (0, u "(I)Lcom/example/keelform/keelform/ValueType;"), (3, u "booleanOfWireType"), (0, u "(I)Z"), (0, u "wireTypeOfBoolean"), (0, u "(Z)I")] 26

def k6c0 : Code := { maxStack := 2, maxLocals := 1, code := prog_15_method_4_code, exceptionTable := #[], attributes := #[] }
def k6m0 : Method := { name := "ofWireType", desc := "(I)Lcom/example/keelform/keelform/ValueType;", sig := { parameters := [.int], returnType := some (.object "com/example/keelform/keelform/ValueType") }, accessFlags := 8, code := some k6c0 }
def k6c1 : Code := { maxStack := 3, maxLocals := 1, code := prog_15_method_7_code, exceptionTable := #[], attributes := #[] }
def k6m1 : Method := { name := "booleanOfWireType", desc := "(I)Z", sig := { parameters := [.int], returnType := some .boolean }, accessFlags := 8, code := some k6c1 }
def k6c2 : Code := { maxStack := 2, maxLocals := 1, code := prog_15_method_8_code, exceptionTable := #[], attributes := #[] }
def k6m2 : Method := { name := "wireTypeOfBoolean", desc := "(Z)I", sig := { parameters := [.boolean], returnType := some .int }, accessFlags := 8, code := some k6c2 }
/-- com/example/keelform/keelform/ValueType -/
def k6 : Class := { plain "com/example/keelform/keelform/ValueType" (some 5) with
  accessFlags := 16433
  interfaces := #[]
  cf := some (fileOf pool6 1 #[] #[{ accessFlags := 8, nameIndex := 119, descriptorIndex := 120, attributes := #[] }, { accessFlags := 8, nameIndex := 124, descriptorIndex := 125, attributes := #[] }, { accessFlags := 8, nameIndex := 126, descriptorIndex := 127, attributes := #[] }] 16433 35 #[] #[{ accessFlags := 16409, nameIndex := 5, descriptorIndex := 6, attributes := #[] }, { accessFlags := 16409, nameIndex := 9, descriptorIndex := 6, attributes := #[] }, { accessFlags := 16409, nameIndex := 12, descriptorIndex := 6, attributes := #[] }, { accessFlags := 16409, nameIndex := 15, descriptorIndex := 6, attributes := #[] }, { accessFlags := 16409, nameIndex := 18, descriptorIndex := 6, attributes := #[] }, { accessFlags := 16409, nameIndex := 21, descriptorIndex := 6, attributes := #[] }, { accessFlags := 16409, nameIndex := 24, descriptorIndex := 6, attributes := #[] }, { accessFlags := 26, nameIndex := 54, descriptorIndex := 28, attributes := #[] }, { accessFlags := 26, nameIndex := 67, descriptorIndex := 68, attributes := #[] }, { accessFlags := 18, nameIndex := 46, descriptorIndex := 47, attributes := #[] }, { accessFlags := 18, nameIndex := 50, descriptorIndex := 51, attributes := #[] }, { accessFlags := 4122, nameIndex := 27, descriptorIndex := 28, attributes := #[] }])
  fields := #[{ name := "BOOLEAN", type := (.object "com/example/keelform/keelform/ValueType"), accessFlags := 16409, slot := 0, constantValue := 0 }, { name := "UNSIGNED", type := (.object "com/example/keelform/keelform/ValueType"), accessFlags := 16409, slot := 1, constantValue := 0 }, { name := "SIGNED", type := (.object "com/example/keelform/keelform/ValueType"), accessFlags := 16409, slot := 2, constantValue := 0 }, { name := "BYTES", type := (.object "com/example/keelform/keelform/ValueType"), accessFlags := 16409, slot := 3, constantValue := 0 }, { name := "STRING", type := (.object "com/example/keelform/keelform/ValueType"), accessFlags := 16409, slot := 4, constantValue := 0 }, { name := "MESSAGE", type := (.object "com/example/keelform/keelform/ValueType"), accessFlags := 16409, slot := 5, constantValue := 0 }, { name := "SEQUENCE", type := (.object "com/example/keelform/keelform/ValueType"), accessFlags := 16409, slot := 6, constantValue := 0 }, { name := "BY_WIRE_TYPE", type := (.array (.object "com/example/keelform/keelform/ValueType")), accessFlags := 26, slot := 7, constantValue := 0 }, { name := "ELEMENT_TYPES", type := (.object "java/util/Set"), accessFlags := 26, slot := 8, constantValue := 0 }, { name := "letter", type := .byte, accessFlags := 18, slot := 3, constantValue := 0 }, { name := "wireTypes", type := (.array .int), accessFlags := 18, slot := 4, constantValue := 0 }, { name := "$VALUES", type := (.array (.object "com/example/keelform/keelform/ValueType")), accessFlags := 4122, slot := 9, constantValue := 0 }]
  methods := #[k6m0, k6m1, k6m2]
  instanceTypes := #[(.object "java/lang/String"), .int, .int, .byte, (.array .int)]
  staticTypes := #[(.object "com/example/keelform/keelform/ValueType"), (.object "com/example/keelform/keelform/ValueType"), (.object "com/example/keelform/keelform/ValueType"), (.object "com/example/keelform/keelform/ValueType"), (.object "com/example/keelform/keelform/ValueType"), (.object "com/example/keelform/keelform/ValueType"), (.object "com/example/keelform/keelform/ValueType"), (.array (.object "com/example/keelform/keelform/ValueType")), (.object "java/util/Set"), (.array (.object "com/example/keelform/keelform/ValueType"))]
  resolved := Array.replicate 154 none
  statics := some 0 }

def pool7 : Array CpInfo := pool [(1, u "java/lang/Cloneable"), (0, .class_ 1), (0, u "java/lang/Object"), (0, .class_ 3)] 3

/-- java/lang/Cloneable -/
def k7 : Class := { plain "java/lang/Cloneable" (some 0) with
  accessFlags := 1537
  interfaces := #[]
  cf := some (fileOf pool7 2 #[] #[] 1537 4 #[] #[])
  fields := #[]
  methods := #[]
  instanceTypes := #[]
  staticTypes := #[]
  resolved := Array.replicate 8 none
  statics := none }

/-- the primitive byte -/
def k8 : Class := { plain "byte" none with kind := .primitive 'B', accessFlags := 0x411 }
/-- [B -/
def k9 : Class := { plain "[B" (some 0) with kind := .array 8 .byte, interfaces := #[7, 4], accessFlags := 1041 }

/-- the primitive int -/
def k10 : Class := { plain "int" none with kind := .primitive 'I', accessFlags := 0x411 }
/-- [I -/
def k11 : Class := { plain "[I" (some 0) with kind := .array 10 .int, interfaces := #[7, 4], accessFlags := 1041 }

/-- [Lcom/example/keelform/keelform/ValueType; -/
def k12 : Class := { plain "[Lcom/example/keelform/keelform/ValueType;" (some 0) with kind := .array 6 (.object "com/example/keelform/keelform/ValueType"), interfaces := #[7, 4], accessFlags := 1041 }

def heap : Heap := #[{ cls := 6, slots := #[.ref 9, .ref 10, .ref 11, .ref 12, .ref 13, .ref 14, .ref 15, .ref 1, .null, .null], vm := .statics 6 },
  { cls := 12, slots := #[.ref 9, .ref 9, .ref 10, .ref 11, .ref 12, .ref 13, .ref 14, .ref 15], vm := .none },
  { cls := 11, slots := #[.int 0, .int 1], vm := .none },
  { cls := 11, slots := #[.int 2], vm := .none },
  { cls := 11, slots := #[.int 3], vm := .none },
  { cls := 11, slots := #[.int 4], vm := .none },
  { cls := 11, slots := #[.int 5], vm := .none },
  { cls := 11, slots := #[.int 6], vm := .none },
  { cls := 11, slots := #[.int 7], vm := .none },
  { cls := 6, slots := #[.null, .int 0, .int 0, .int 0, .ref 2], vm := .none },
  { cls := 6, slots := #[.null, .int 1, .int 0, .int 0, .ref 3], vm := .none },
  { cls := 6, slots := #[.null, .int 2, .int 0, .int 0, .ref 4], vm := .none },
  { cls := 6, slots := #[.null, .int 3, .int 0, .int 0, .ref 5], vm := .none },
  { cls := 6, slots := #[.null, .int 4, .int 0, .int 0, .ref 6], vm := .none },
  { cls := 6, slots := #[.null, .int 5, .int 0, .int 0, .ref 7], vm := .none },
  { cls := 6, slots := #[.null, .int 6, .int 0, .int 0, .ref 8], vm := .none }]
def classes : Array Class := #[k0, k1, k2, k3, k4, k5, k6, k7, k8, k9, k10, k11, k12]
def interned : List (Array UInt16 × Addr) := []
def slotsUsed : Nat := 61
def theMethod : MethodId := ⟨1, 1⟩
def args0 : Array Value := #[.int 5]
def aboutOver (below : List Frame) : State where
  vm := { classes := classes, interned := interned.toArray }
  heap := heap
  slotsUsed := slotsUsed
  threads := #[{ frames := .invoking theMethod args0 :: below }]
def below0 : List Frame := [.native { method := ⟨0, 0⟩, args := #[] }]
def about1 : State := aboutOver below0
def p0 : Program := .bare "" "" ""
def e0 : Env := launch0.env 0 0 0
theorem w_frames : about1.frames = Frame.invoking theMethod args0 :: below0 := rfl
set_option maxRecDepth 65536 in
theorem w_args : argsFit about1.vm theMethod args0 = true := by decide +kernel
set_option maxRecDepth 65536 in
theorem w_heap : heapFits about1 = true := by decide +kernel
set_option maxRecDepth 65536 in
theorem w_runnable : about1.curStatus? = some .runnable := by decide +kernel
set_option maxRecDepth 65536 in
theorem w_alone : about1.alone = true := by decide +kernel
set_option maxRecDepth 65536 in
theorem w_named : about1.methodNamed? x = some theMethod := by decide +kernel
set_option maxRecDepth 65536 in
theorem w_hears : about1.hears theMethod below0 = true := by decide +kernel
set_option maxRecDepth 65536 in
theorem w_ripe : about1.ripe theMethod args0 below0 = true := by decide +kernel
theorem w_running : about1.status = .running := rfl
set_option maxRecDepth 65536 in
theorem w_room : about1.hasRoom e0.platform room_1 = true :=
  launch0.hasRoom_least _ room_1 (by decide +kernel) (by decide +kernel) (by decide +kernel) (by decide +kernel) (by decide +kernel) (by decide +kernel)
theorem allAtoms_all (ts : List Jvm.Cond) (a : Array Jvm.Value) (st : Jvm.State) : (allAtoms ts).before a st = ts.all (fun c => c.before a st) := by
  induction ts with
  | nil => rfl
  | cons c t ih =>
    show (Jvm.Cond.and c (allAtoms t)).before a st = _
    rw [Jvm.Cond.before_and, ih, List.all_cons]
def words1 : List Jvm.Cond := Jvm.Cond.code x code maxLocals ret :: tables_1
/-- a 'code' word, met by the world's own term for the bytes: nothing is compared byte by byte -/
theorem code_word {y : MethodName} {bytes : ByteArray} {mx : Nat} {rt : Option FieldType} {a : Array Value} {s : State} {m : MethodId} {meth : Method} {c : Code} (h1 : s.methodNamed? y = some m) (h2 : s.vm.method? m = some meth) (h3 : meth.code = some c) (h4 : c.code = bytes)
    (h5 : (c.maxLocals == mx && c.exceptionTable.isEmpty && decide (c.maxStack ≤ mostOperands) && decide (meth.sig.returnType = rt) && !meth.locks && decide (parseMethodDescriptor y.desc = some meth.sig)) = true) : (Jvm.Cond.code y bytes mx rt).before a s = true := by
  simp only [Bool.and_eq_true, beq_iff_eq, Bool.not_eq_true', decide_eq_true_eq] at h5
  obtain ⟨⟨⟨⟨⟨g1, g2⟩, g3⟩, g4⟩, g5⟩, g6⟩ := h5
  simp [Cond.before, Cond.holds, Cond.value, h1, h2, h3, h4, g1, g2, g3, g4, g5, g6]
def isCode : Jvm.Cond → Bool
  | .code _ _ _ _ => true
  | _ => false
theorem all_split {L : List Jvm.Cond} {P : Jvm.Cond → Bool} (h1 : L.all (fun c => isCode c || P c) = true) (h2 : ∀ c ∈ L.filter isCode, P c = true) : L.all P = true := by
  refine List.all_eq_true.mpr fun c hc => ?_
  have h := List.all_eq_true.mp h1 c hc
  rcases Bool.eq_false_or_eq_true (isCode c) with hi | hi
  · exact h2 c (List.mem_filter.mpr ⟨hc, hi⟩)
  · simpa [hi] using h
set_option maxRecDepth 65536 in
theorem w_c0 : (Jvm.Cond.code x code maxLocals ret).before args0 about1 = true := code_word (m := ⟨1, 1⟩) (meth := k1m1) (c := k1c1) (by decide +kernel) rfl rfl rfl (by decide +kernel)
set_option maxRecDepth 65536 in
theorem w_c1 : (Jvm.Cond.code ({ cls := "com/example/keelform/keelform/ValueType", name := "wireTypeOfBoolean", desc := "(Z)I" } : Jvm.MethodName) prog_15_method_8_code (1 : Nat) (Option.some Jvm.ClassFile.FieldType.int)).before args0 about1 = true := code_word (m := ⟨6, 2⟩) (meth := k6m2) (c := k6c2) (by decide +kernel) rfl rfl rfl (by decide +kernel)
set_option maxRecDepth 65536 in
theorem w_c2 : (Jvm.Cond.code ({ cls := "com/example/keelform/keelform/ValueType", name := "ofWireType", desc := "(I)Lcom/example/keelform/keelform/ValueType;" } : Jvm.MethodName) prog_15_method_4_code (1 : Nat) (Option.some (Jvm.ClassFile.FieldType.object "com/example/keelform/keelform/ValueType"))).before args0 about1 = true := code_word (m := ⟨6, 0⟩) (meth := k6m0) (c := k6c0) (by decide +kernel) rfl rfl rfl (by decide +kernel)
set_option maxRecDepth 65536 in
theorem w_c3 : (Jvm.Cond.code ({ cls := "com/example/keelform/keelform/ValueType", name := "booleanOfWireType", desc := "(I)Z" } : Jvm.MethodName) prog_15_method_7_code (1 : Nat) (Option.some Jvm.ClassFile.FieldType.boolean)).before args0 about1 = true := code_word (m := ⟨6, 1⟩) (meth := k6m1) (c := k6c1) (by decide +kernel) rfl rfl rfl (by decide +kernel)
def codes1 : List Jvm.Cond := [Jvm.Cond.code x code maxLocals ret, Jvm.Cond.code ({ cls := "com/example/keelform/keelform/ValueType", name := "wireTypeOfBoolean", desc := "(Z)I" } : Jvm.MethodName) prog_15_method_8_code (1 : Nat) (Option.some Jvm.ClassFile.FieldType.int), Jvm.Cond.code ({ cls := "com/example/keelform/keelform/ValueType", name := "ofWireType", desc := "(I)Lcom/example/keelform/keelform/ValueType;" } : Jvm.MethodName) prog_15_method_4_code (1 : Nat) (Option.some (Jvm.ClassFile.FieldType.object "com/example/keelform/keelform/ValueType")), Jvm.Cond.code ({ cls := "com/example/keelform/keelform/ValueType", name := "booleanOfWireType", desc := "(I)Z" } : Jvm.MethodName) prog_15_method_7_code (1 : Nat) (Option.some Jvm.ClassFile.FieldType.boolean)]
set_option maxRecDepth 65536 in
theorem codes_eq : words1.filter isCode = codes1 := rfl
theorem w_codes : ∀ c ∈ words1.filter isCode, c.before args0 about1 = true := by
  rw [codes_eq]
  intro c hc
  simp only [codes1, List.mem_cons, List.not_mem_nil, or_false] at hc
  rcases hc with rfl | rfl | rfl | rfl
  · exact w_c0
  · exact w_c1
  · exact w_c2
  · exact w_c3
set_option maxRecDepth 65536 in
theorem w_t1 : words1.all (fun c => isCode c || c.before args0 about1) = true := by decide +kernel
theorem w_tables : (allAtoms (Jvm.Cond.code x code maxLocals ret :: tables_1)).before args0 about1 = true := by
  rw [allAtoms_all]
  show words1.all (fun c => c.before args0 about1) = true
  refine all_split ?_ w_codes
  rw [w_t1]
set_option maxRecDepth 65536 in
theorem w_case : (Jvm.Cond.and given_1 narrow_1).before args0 about1 = true := by decide +kernel
theorem w_applies : (headSpec (Jvm.Cond.code x code maxLocals ret :: tables_1) room_1).applies x e0.platform about1 = true :=
  (Spec.applies_iff w_frames).mpr ⟨w_running, w_runnable, w_alone, w_named, w_hears, w_ripe, w_room, w_tables⟩
theorem atStart : AtStart classFile x code maxLocals ret World_1 tables_1 room_1 Calls_1 rest_1 Pre_1 launch0 p0 e0 about1 theMethod args0 below0 :=
  ⟨lists_1, trivial, launch0.admits_env _ _ _, launch0.least_env, fairChoices_fair.cas, fairChoices_fair.clock, w_frames, w_args, w_heap, w_applies, trivial, trivial, w_case⟩
end start1
theorem witness_1 : WitnessClaimed_1 := ⟨start1.p0, start1.e0, start1.about1, start1.theMethod, start1.args0, start1.below0, start1.atStart⟩
end Jvm.Pilot.@@N@@
