import JvmDerived
import JvmDerived.Pilot.@@N@@Statement
import JvmDerived.Pilot.@@N@@Code
set_option linter.unusedVariables false
set_option linter.unusedSimpArgs false
namespace Jvm.RoadKit
open Sem ClassFile Op Lib Jvm.Stand Jvm.Free Jvm.LawKit
section OwnFlow
variable {p : Program} {l : Launch} {e : Env} {R : Room} {s : State} {m : MethodId} {args : Array Value} {below : List Frame} {meth : Method} {c : Code} {T : State} {locs : List Loc} {cells slots : Nat} {P : State → Outcome → Prop} {Q : Option Value → Heap → List Loc → Prop} {C S : Nat}
/-- from t the run comes to an end at which P holds -/
def OGo (p : Program) (e : Env) (below : List Frame) (P : State → Outcome → Prop) (t : State) : Prop := ∃ s₂ o, Steps p.tables e below t s₂ ∧ s₂.status = .running ∧ Ended s₂ below o ∧ P s₂ o
/-- it returned; Q of the value, the heap and the places written; the frame -/
def OPost (s : State) (Q : Option Value → Heap → List Loc → Prop) (C S : Nat) (s₂ : State) (o : Outcome) : Prop := ∃ v L, o = .returned v ∧ Q v s₂.heap L ∧ FrameEnd s o s₂ L C S
theorem OGo.step {t t' : State} (h : ∀ u, Steps p.tables e below t' u → Steps p.tables e below t u) (g : OGo p e below P t') : OGo p e below P t := by
  obtain ⟨s2, o, h1, h2⟩ := g
  exact ⟨s2, o, h _ h1, h2⟩
theorem OGo.steps {t t' : State} (h : Steps p.tables e below t t') (g : OGo p e below P t') : OGo p e below P t := OGo.step (fun _ k => h.trans k) g
theorem OGo.retI (X : Stand p l e R s m args below meth c T locs cells slots) (hx : p.tables.exec = Jvm.exec) (hk : meth.locks = false) {pc : Nat} {Ls : Array Slot} {z : Int32} {rest : List Value} (hret : meth.sig.returnType = some .int) (hd : decode c.code pc = .ok (.ireturn, 1))
    (hc : cells ≤ C) (hs : slots ≤ S) (q : Q (some (.int z)) T.heap locs) : OGo p e below (OPost s Q C S) (T.setTop (mkF m pc Ls (.int z :: rest))) := by
  obtain ⟨fs, hr, hrun, hended, hW, hsame⟩ := X.leave (v := some (.int z)) (fun h => by rw [hret] at h; cases h) hk
  exact ⟨_, _, retOut X hx hret rfl (Or.inl ⟨rfl, Or.inl rfl, _, rfl⟩) hd hr, hrun, hended, _, _, rfl, q, ⟨_, rfl⟩, hW, hsame.mono hc hs⟩
theorem OGo.retN (X : Stand p l e R s m args below meth c T locs cells slots) (hx : p.tables.exec = Jvm.exec) (hk : meth.locks = false) {pc : Nat} {Ls : Array Slot} {z : Int32} {t : FieldType} {rest : List Value} (hret : meth.sig.returnType = some t) (ht : t = .boolean ∨ t = .byte ∨ t = .char ∨ t = .short) (hd : decode c.code pc = .ok (.ireturn, 1))
    (hc : cells ≤ C) (hs : slots ≤ S) (q : Q (some (.int (nar t z))) T.heap locs) : OGo p e below (OPost s Q C S) (T.setTop (mkF m pc Ls (.int z :: rest))) := by
  obtain ⟨fs, hr, hrun, hended, hW, hsame⟩ := X.leave (v := some (.int (nar t z))) (fun h => by rw [hret] at h; cases h) hk
  exact ⟨_, _, Jvm.RoadKit.retN X hx hret ht hd hr, hrun, hended, _, _, rfl, q, ⟨_, rfl⟩, hW, hsame.mono hc hs⟩
theorem OGo.retJ (X : Stand p l e R s m args below meth c T locs cells slots) (hx : p.tables.exec = Jvm.exec) (hk : meth.locks = false) {pc : Nat} {Ls : Array Slot} {z : Int64} {rest : List Value} (hret : meth.sig.returnType = some .long) (hd : decode c.code pc = .ok (.lreturn, 1))
    (hc : cells ≤ C) (hs : slots ≤ S) (q : Q (some (.long z)) T.heap locs) : OGo p e below (OPost s Q C S) (T.setTop (mkF m pc Ls (.long z :: rest))) := by
  obtain ⟨fs, hr, hrun, hended, hW, hsame⟩ := X.leave (v := some (.long z)) (fun h => by rw [hret] at h; cases h) hk
  exact ⟨_, _, retOut X hx hret rfl (Or.inr (Or.inl ⟨rfl, rfl, _, rfl⟩)) hd hr, hrun, hended, _, _, rfl, q, ⟨_, rfl⟩, hW, hsame.mono hc hs⟩
theorem OGo.retR (X : Stand p l e R s m args below meth c T locs cells slots) (hx : p.tables.exec = Jvm.exec) (hk : meth.locks = false) {pc : Nat} {Ls : Array Slot} {w : Value} {t : FieldType} {rest : List Value} (hret : meth.sig.returnType = some t) (ht : t.isReference = true) (hw : w.isRef = true) (hd : decode c.code pc = .ok (.areturn, 1))
    (hc : cells ≤ C) (hs : slots ≤ S) (q : Q (some w) T.heap locs) : OGo p e below (OPost s Q C S) (T.setTop (mkF m pc Ls (w :: rest))) := by
  obtain ⟨fs, hr, hrun, hended, hW, hsame⟩ := X.leave (v := some w) (fun h => by rw [hret] at h; cases h) hk
  have hn : narrow t w = w := by rcases ref_cases hw with rfl | ⟨a, rfl⟩ <;> cases t <;> first | rfl | (simp [FieldType.isReference] at ht)
  exact ⟨_, _, retOut X hx hret hn (Or.inr (Or.inr (Or.inr (Or.inr ⟨rfl, ht, hw⟩)))) hd hr, hrun, hended, _, _, rfl, q, ⟨_, rfl⟩, hW, hsame.mono hc hs⟩
theorem OGo.retV (X : Stand p l e R s m args below meth c T locs cells slots) (hx : p.tables.exec = Jvm.exec) (hk : meth.locks = false) {pc : Nat} {Ls : Array Slot} (hret : meth.sig.returnType = none) (hd : decode c.code pc = .ok (.return_, 1))
    (hc : cells ≤ C) (hs : slots ≤ S) (q : Q none T.heap locs) : OGo p e below (OPost s Q C S) (T.setTop (mkF m pc Ls [])) := by
  obtain ⟨fs, hr, hrun, hended, hW, hsame⟩ := X.leave (v := none) (fun _ => rfl) hk
  exact ⟨_, _, X.returnOut hx hret hd hr, hrun, hended, _, _, rfl, q, ⟨_, rfl⟩, hW, hsame.mono hc hs⟩
end OwnFlow
end Jvm.RoadKit
namespace Jvm.Pilot.@@N@@
open Jvm Jvm.ClassFile Sem Op Lib Jvm.Free Jvm.Stand Jvm.LawKit Jvm.RoadKit Bundle Jvm.Pilot.@@N@@.Jvm.D
theorem own_eqI {a b : Term} {args : Array Value} {first s : State} {o : Option Outcome} {idx : List Nat} {k : Int32} (h : (Cond.eq a b).value args first o s idx = some true) (hb : b.eval args first o idx s = some (.int k)) : a.eval args first o idx s = some (.int k) := by
  cases ha : a.eval args first o idx s with
  | none => simp [Cond.value, ha] at h
  | some y => cases y <;> simp [Cond.value, ha, hb] at h <;> rw [h]
theorem own_eqR {a b : Term} {args : Array Value} {first s : State} {o : Option Outcome} {idx : List Nat} {k : Addr} (h : (Cond.eq a b).value args first o s idx = some true) (hb : b.eval args first o idx s = some (.ref k)) : a.eval args first o idx s = some (.ref k) := by
  cases ha : a.eval args first o idx s with
  | none => simp [Cond.value, ha] at h
  | some y => cases y <;> simp [Cond.value, ha, hb] at h <;> rw [h]
theorem own_128 (x : Int32) : (x + (128 : Int32)) - (128 : Int32) = x := by simp
theorem own_idx (x : Int32) (h1 : ¬ x < (-128 : Int32)) (h2 : ¬ (127 : Int32) < x) : ¬ (x + (128 : Int32)) < 0 ∧ (x + (128 : Int32)) < (256 : Int32) := by
  have a := c_iadd x 128
  have e1 : (128 : Int32).toInt = 128 := by decide
  have e2 : (-128 : Int32).toInt = -128 := by decide
  have e3 : (127 : Int32).toInt = 127 := by decide
  have e4 : (256 : Int32).toInt = 256 := by decide
  have e5 : (0 : Int32).toInt = 0 := by decide
  have r := rng32 (x + 128)
  rw [Int32.lt_iff_toInt_lt] at h1 h2
  rw [Int32.lt_iff_toInt_lt, Int32.lt_iff_toInt_lt]
  omega
theorem own_all {args : Array Value} {s : State} {C f d : String} {t : Term} {c : Cell} {a : Addr} (ev : ∀ idx, t.eval args s none idx s = some (.ref a)) (A : Arr s s.heap a c (.object C)) (sz : c.slots.size = ((256 : Int32)).toNatClampNeg)
    (h : (Cond.all t (Cond.and (Cond.exactly (Term.elem t (Term.index 0)) C) (Cond.eq (Term.field (Term.elem t (Term.index 0)) C f d) (Term.sub (Term.index 0) (Term.int (128 : Int32)))))).value args s none s [] = some true) :
    ∀ j : Int32, ¬ j < 0 → j < (256 : Int32) → ∃ r : Addr, c.slots[j.toNatClampNeg]? = some (.ref r) ∧ Exa s s.heap r C ∧ Fld s s.heap r C f d (.int (j - (128 : Int32))) := fun j h0 h1 => by
  have hin : ¬ (j < 0 ∨ c.slots.size ≤ j.toNatClampNeg) := inb_of sz ⟨h0, h1⟩
  have hal := Cond.all_elim (ev []) (IntBox.arrayAt_of A.1 A.2.1 A.2.2) h j.toNatClampNeg (Nat.lt_of_not_le fun q => hin (Or.inr q))
  obtain ⟨g1, g2⟩ := and_e hal
  obtain ⟨r, er⟩ := exa_v g1
  have hi : (Term.index 0).eval args s none [j.toNatClampNeg] s = some (.int j) := idx_at h0
  have q := (elem_in er (ev _) hi A.1).2
  have hb : (Term.sub (Term.index 0) (Term.int (128 : Int32))).eval args s none [j.toNatClampNeg] s = some (.int (j - (128 : Int32))) := by
    have e2 : (Term.int (128 : Int32)).eval args s none [j.toNatClampNeg] s = some (.int (128 : Int32)) := rfl
    simp only [Term.eval, hi, e2] at hi ⊢
    simp [hi]
    exact (back32 h0).1
  exact ⟨r, q, exa_at er g1, Fld.start ((fld_at er).symm.trans (own_eqI g2 hb))⟩
theorem own_size {args : Array Value} {s : State} {t : Term} {c : Cell} {a : Addr} {ty : FieldType} (ev : t.eval args s none [] s = some (.ref a)) (A : Arr s s.heap a c ty) (h : (Term.length t).eval args s none [] s = some (.int (256 : Int32))) : c.slots.size = ((256 : Int32)).toNatClampNeg := by
  have hA := IntBox.arrayAt_of A.1 A.2.1 A.2.2
  simp only [Term.eval, Option.bind_eq_bind, ev, Option.bind_some, hA] at h
  by_cases hn : c.slots.size < 2147483648
  · rw [if_pos hn] at h
    have q : c.slots.size.toInt32 = (256 : Int32) := by injection h with h; injection h
    have r := len_toInt (n := c.slots.size) (by omega)
    rw [q] at r
    have e : (256 : Int32).toInt = 256 := by decide
    show c.slots.size = (256 : Int32).toInt.toNat
    omega
  · rw [if_neg hn] at h; cases h
theorem own_odd (x y : Int32) : ¬ (x = (x ^^^ (y ||| (1 : Int32)))) := fun h => by
  have a := c_xor2 x (y ||| 1)
  rw [← h] at a
  have b := par (y ||| 1)
  have c : (y ||| (1 : Int32)).toBitVec.toNat = y.toBitVec.toNat ||| 1 := by rw [Int32.toBitVec_or, BitVec.toNat_or]; rfl
  have d : (y.toBitVec.toNat ||| 1) % 2 = 1 := by
    have e : (y.toBitVec.toNat ||| 1) % 2 ^ 1 = (y.toBitVec.toNat % 2 ^ 1) ||| (1 % 2 ^ 1) := Nat.or_mod_two_pow
    have f : y.toBitVec.toNat % 2 = 0 ∨ y.toBitVec.toNat % 2 = 1 := by omega
    simp only [Nat.reducePow, Nat.reduceMod] at e
    rw [e]; rcases f with f | f <;> rw [f] <;> rfl
  rw [c, d] at b
  omega
theorem d6_0 : decode jdk_18_method_1_code 0 = .ok (.aload_n 0, 1) := by decide +kernel
theorem d6_1 : decode jdk_18_method_1_code 1 = .ok (.invokespecial 1, 3) := by decide +kernel
theorem d6_4 : decode jdk_18_method_1_code 4 = .ok (.return_, 1) := by decide +kernel
theorem pnnu : plainName "java/lang/Number" = true := by first | (simp [plainName, overriddenIn]; done) | decide +kernel
theorem efnu (m : MethodId) (x0 : Addr) : entryFrame m #[(.ref x0)] 1 = mkF m 0 #[.val (.ref x0)] [] := by first | (simp [entryFrame, mkF, argsToLocals, Value.category]; done) | rfl
def Qnu (Z : State) (a : Addr) (h0 : Heap) (n0 : Nat) (v : Option Value) (h : Heap) (L : List Loc) : Prop := v = none ∧ Fr n0 L ∧ h = h0
set_option maxRecDepth 65536 in
set_option maxHeartbeats 40000000 in
theorem rmnu (l : Launch) (Z : State) (a0 : Array Value) (hw : ∀ d ∈ tables_1, d.before a0 Z = true) (ws : List Jvm.Cond) (a : Addr) (h0 : Heap) (n0 : Nat) (Z0 : n0 ≤ h0.size) :
    MetFree l (⟨"java/lang/Number", "<init>", "()V"⟩ : MethodName) (head1 (Jvm.Cond.code (⟨"java/lang/Number", "<init>", "()V"⟩ : MethodName) jdk_18_method_1_code 1 none :: ws) ({ frames := 1, cells := 0, slots := 0, locals := 12 } : Room)) (fun aQ UQ => aQ = #[(.ref a)] ∧ Z.Warmed39 UQ.vm ∧ UQ.heap = h0) (fun _ _ _ _ _ => True) (fun _ U o U' => ∃ v L, o = .returned v ∧ Qnu Z a h0 n0 v U'.heap L ∧ FrameEnd U o U' L ({ frames := 1, cells := 0, slots := 0, locals := 12 } : Room).cells ({ frames := 1, cells := 0, slots := 0, locals := 12 } : Room).slots) := by
  refine MetFree.of_bodySF (plainFor_of_name pnnu) hisR ?_
  intro p e s m args below meth c s₁ Bd hml0 hP hK
  obtain ⟨rfl, hZ, hh⟩ := hP
  have hx := Bd.exec
  have hby := Bd.bytes
  have hml : c.maxLocals = 1 := hml0
  have hown : s.vm.findClass "java/lang/Number" = some m.cls := findClass_of_methodNamed Bd.named
  have hnm := (name_of_methodNamed Bd.named Bd.method).1
  have X0 : Stand p l e ({ frames := 1, cells := 0, slots := 0, locals := 12 } : Room) s m #[(.ref a)] below meth c s₁ [] 0 0 := Stand.of_body Bd
  have e0 : s₁.heap = h0 := by rw [← hh, Bd.state]; rfl
  have N0 := Fr.nil n0
  show OGo p e below (OPost s (Qnu Z a h0 n0) ({ frames := 1, cells := 0, slots := 0, locals := 12 } : Room).cells ({ frames := 1, cells := 0, slots := 0, locals := 12 } : Room).slots) (s₁.setTop (entryFrame m #[(.ref a)] 1))
  refine OGo.step (fun uK kK => castTop (efnu m a) kK) ?_
  show OGo p e below _ (s₁.setTop (mkF m 0 #[.val (.ref a)] []))
  refine OGo.step (fun uK kK => XS.aloadN X0.here hx rfl (hb hby d6_0) rfl rfl kK) ?_
  show OGo p e below _ (s₁.setTop (mkF m 1 #[.val (.ref a)] [(.ref a)]))
  obtain ⟨T1, X1, e1, st1⟩ := initO X0 hx hZ hown (hw _ (List.mem_of_getElem? (i := 43) rfl)) (hw _ (List.mem_of_getElem? (i := 44) rfl)) (hw _ (List.mem_of_getElem? (i := 45) rfl)) e0 (g := (mkF m 1 #[.val (.ref a)] [(.ref a)])) rfl (by rw [hml]; rfl) rfl (hb hby d6_1) (by decide) (W := 0) (by show 2 * 0 + _ ≤ _; exact Nat.le_of_eq rfl) (by decide)
  refine OGo.step (fun uK kK => st1 uK kK) ?_
  show OGo p e below _ (T1.setTop (mkF m 4 #[.val (.ref a)] []))
  exact OGo.retV X1 hx Bd.notSynchronized Bd.returns (hb hby d6_4) (by decide) (by decide) (by show Qnu Z a h0 n0 _ T1.heap _; rw [e1]; exact ⟨rfl, N0, rfl⟩)
theorem d5_0 : decode jdk_33_method_23_code 0 = .ok (.aload_n 0, 1) := by decide +kernel
theorem d5_1 : decode jdk_33_method_23_code 1 = .ok (.invokespecial 202, 3) := by decide +kernel
theorem d5_4 : decode jdk_33_method_23_code 4 = .ok (.aload_n 0, 1) := by decide +kernel
theorem d5_5 : decode jdk_33_method_23_code 5 = .ok (.iload_n 1, 1) := by decide +kernel
theorem d5_6 : decode jdk_33_method_23_code 6 = .ok (.putfield 205, 3) := by decide +kernel
theorem d5_9 : decode jdk_33_method_23_code 9 = .ok (.return_, 1) := by decide +kernel
theorem pnii : plainName "java/lang/Integer" = true := by first | (simp [plainName, overriddenIn]; done) | decide +kernel
theorem pdii_0 : parseMethodDescriptor "()V" = some ⟨[], none⟩ := by decide +kernel
theorem efii (m : MethodId) (x0 : Addr) (x1 : Int32) : entryFrame m #[(.ref x0), (.int x1)] 2 = mkF m 0 #[.val (.ref x0), .val (.int x1)] [] := by first | (simp [entryFrame, mkF, argsToLocals, Value.category]; done) | rfl
def Qii (Z : State) (a : Addr) (p1 : Int32) (h0 : Heap) (n0 : Nat) (v : Option Value) (h : Heap) (L : List Loc) : Prop := v = none ∧ Fr n0 L ∧ Keep h0 h [a] ∧ Fld Z h a "java/lang/Integer" "value" "I" (.int p1)
set_option maxRecDepth 65536 in
set_option maxHeartbeats 40000000 in
theorem rmii (l : Launch) (Z : State) (a0 : Array Value) (hw : ∀ d ∈ tables_1, d.before a0 Z = true) (ws : List Jvm.Cond) (a : Addr) (p1 : Int32) (h0 : Heap) (n0 : Nat) (Z0 : n0 ≤ h0.size) (Fv : Fld Z h0 a "java/lang/Integer" "value" "I" (.int (0 : Int32))) (Ex : Exa Z h0 a "java/lang/Integer") (ga : n0 ≤ a) :
    MetFree l (⟨"java/lang/Integer", "<init>", "(I)V"⟩ : MethodName) (head1 (Jvm.Cond.code (⟨"java/lang/Integer", "<init>", "(I)V"⟩ : MethodName) jdk_33_method_23_code 2 none :: ws) ({ frames := 2, cells := 0, slots := 0, locals := 24 } : Room)) (fun aQ UQ => aQ = #[(.ref a), (.int p1)] ∧ Z.Warmed39 UQ.vm ∧ UQ.heap = h0) (fun _ _ _ _ _ => True) (fun _ U o U' => ∃ v L, o = .returned v ∧ Qii Z a p1 h0 n0 v U'.heap L ∧ FrameEnd U o U' L ({ frames := 2, cells := 0, slots := 0, locals := 24 } : Room).cells ({ frames := 2, cells := 0, slots := 0, locals := 24 } : Room).slots) := by
  refine MetFree.of_bodySF (plainFor_of_name pnii) hisR ?_
  intro p e s m args below meth c s₁ Bd hml0 hP hK
  obtain ⟨rfl, hZ, hh⟩ := hP
  have hx := Bd.exec
  have hby := Bd.bytes
  have hml : c.maxLocals = 2 := hml0
  have hown : s.vm.findClass "java/lang/Integer" = some m.cls := findClass_of_methodNamed Bd.named
  have hnm := (name_of_methodNamed Bd.named Bd.method).1
  have X0 : Stand p l e ({ frames := 2, cells := 0, slots := 0, locals := 24 } : Room) s m #[(.ref a), (.int p1)] below meth c s₁ [] 0 0 := Stand.of_body Bd
  have e0 : s₁.heap = h0 := by rw [← hh, Bd.state]; rfl
  have N0 := Fr.nil n0
  show OGo p e below (OPost s (Qii Z a p1 h0 n0) ({ frames := 2, cells := 0, slots := 0, locals := 24 } : Room).cells ({ frames := 2, cells := 0, slots := 0, locals := 24 } : Room).slots) (s₁.setTop (entryFrame m #[(.ref a), (.int p1)] 2))
  refine OGo.step (fun uK kK => castTop (efii m a p1) kK) ?_
  show OGo p e below _ (s₁.setTop (mkF m 0 #[.val (.ref a), .val (.int p1)] []))
  refine OGo.step (fun uK kK => XS.aloadN X0.here hx rfl (hb hby d5_0) rfl rfl kK) ?_
  show OGo p e below _ (s₁.setTop (mkF m 1 #[.val (.ref a), .val (.int p1)] [(.ref a)]))
  obtain ⟨_, _, ⟨T1, Lq1, kq_1, nq_1⟩, -, X1, ⟨Lc1, hQ1, lq1, yq1, zq1⟩, st1⟩ := X0.specialBack hx (y := (⟨"java/lang/Number", "<init>", "()V"⟩ : MethodName)) rfl hown (mvT hZ (hw _ (List.mem_of_getElem? (i := 37) rfl))) (mvT hZ (hw _ (List.mem_of_getElem? (i := 38) rfl))) (mvT hZ (hw _ (List.mem_of_getElem? (i := 42) rfl))) (by decide) (backOf (W := 0) (rmnu l Z a0 hw [] a  h0 n0 Z0 ) hZ (hw _ (List.mem_of_getElem? (i := 42) rfl)) (hw _ (List.mem_of_getElem? (i := 41) rfl)) (by decide) (by decide)) (g := (mkF m 1 #[.val (.ref a), .val (.int p1)] [(.ref a)])) rfl (by rw [hml]; rfl) (Steps.refl _) (a := a) (argsL := []) (rest := []) (lenOf pdii_0 rfl) rfl (by show 2 * 0 + _ ≤ _; exact Nat.le_of_eq rfl) (hb hby d5_1) (fun _ _ => ⟨rfl, e0, (by decide : 0 + 0 ≤ _), (by decide : 0 + 0 ≤ _)⟩)
  dsimp only [Pt.U, Pt.locs, Pt.cells, Pt.slots] at X1 lq1 yq1 zq1 st1 hQ1
  subst lq1 yq1 zq1
  obtain ⟨rfl, Nq1, e1⟩ := hQ1
  have N1 := Fr.app N0 Nq1
  refine OGo.steps st1 ?_
  show OGo p e below _ (T1.setTop (mkF m 4 #[.val (.ref a), .val (.int p1)] []))
  refine OGo.step (fun uK kK => XS.aloadN X1.here hx rfl (hb hby d5_4) rfl rfl kK) ?_
  show OGo p e below _ (T1.setTop (mkF m 5 #[.val (.ref a), .val (.int p1)] [(.ref a)]))
  refine OGo.step (fun uK kK => XS.iloadN X1.here hx rfl (hb hby d5_5) rfl kK) ?_
  show OGo p e below _ (T1.setTop (mkF m 6 #[.val (.ref a), .val (.int p1)] [(.int p1), (.ref a)]))
  obtain ⟨T2, h2, X2, e2, W2, st2⟩ := putF X1 hx hZ hown (host := "") (Or.inl (hw _ (List.mem_of_getElem? (i := 28) rfl))) Via.refl e1 Fv Ex (Or.inr ⟨(hw _ (List.mem_of_getElem? (i := 29) rfl)), rfl, hnm⟩) (hw _ (List.mem_of_getElem? (i := 33) rfl)) (ty := .int) (by decide) rfl rfl (g := (mkF m 6 #[.val (.ref a), .val (.int p1)] [(.int p1), (.ref a)])) rfl rfl (hb hby d5_6)
  have Fw2 := Fv.same W2
  have Ex_4 := (Ex.wr W2)
  have ZS2 : n0 ≤ h2.size := Nat.le_trans Z0 (Keep.of_wr W2).1
  have KC2 : Keep h0 h2 [a] := (Keep.refl h0 [a]).wr W2 (Or.inl (List.mem_of_getElem? (i := 0) rfl))
  have N2 := Fr.snoc X2 N1 ga
  refine OGo.step (fun uK kK => st2 uK kK) ?_
  show OGo p e below _ (T2.setTop (mkF m 9 #[.val (.ref a), .val (.int p1)] []))
  exact OGo.retV X2 hx Bd.notSynchronized Bd.returns (hb hby d5_9) (by decide) (by decide) (by show Qii Z a p1 h0 n0 _ T2.heap _; rw [e2]; exact ⟨rfl, N2, KC2, Fw2⟩)
theorem d1_0 : decode jdk_33_method_22_code 0 = .ok (.iload_n 0, 1) := by decide +kernel
theorem d1_1 : decode jdk_33_method_22_code 1 = .ok (.bipush (-128), 2) := by decide +kernel
theorem d1_3 : decode jdk_33_method_22_code 3 = .ok (.if_icmp .lt 20, 3) := by decide +kernel
theorem d1_6 : decode jdk_33_method_22_code 6 = .ok (.iload_n 0, 1) := by decide +kernel
theorem d1_7 : decode jdk_33_method_22_code 7 = .ok (.getstatic 191, 3) := by decide +kernel
theorem d1_10 : decode jdk_33_method_22_code 10 = .ok (.if_icmp .gt 13, 3) := by decide +kernel
theorem d1_13 : decode jdk_33_method_22_code 13 = .ok (.getstatic 195, 3) := by decide +kernel
theorem d1_16 : decode jdk_33_method_22_code 16 = .ok (.iload_n 0, 1) := by decide +kernel
theorem d1_17 : decode jdk_33_method_22_code 17 = .ok (.sipush 128, 3) := by decide +kernel
theorem d1_20 : decode jdk_33_method_22_code 20 = .ok (.iadd, 1) := by decide +kernel
theorem d1_21 : decode jdk_33_method_22_code 21 = .ok (.aaload, 1) := by decide +kernel
theorem d1_22 : decode jdk_33_method_22_code 22 = .ok (.areturn, 1) := by decide +kernel
theorem d1_23 : decode jdk_33_method_22_code 23 = .ok (.new 1, 3) := by decide +kernel
theorem d1_26 : decode jdk_33_method_22_code 26 = .ok (.dup, 1) := by decide +kernel
theorem d1_27 : decode jdk_33_method_22_code 27 = .ok (.iload_n 0, 1) := by decide +kernel
theorem d1_28 : decode jdk_33_method_22_code 28 = .ok (.invokespecial 199, 3) := by decide +kernel
theorem d1_31 : decode jdk_33_method_22_code 31 = .ok (.areturn, 1) := by decide +kernel
theorem pnvo : plainName "java/lang/Integer" = true := by first | (simp [plainName, overriddenIn]; done) | decide +kernel
theorem pdvo_0 : parseMethodDescriptor "(I)V" = some ⟨[.int], none⟩ := by decide +kernel
theorem efvo (m : MethodId) (x0 : Int32) : entryFrame m #[(.int x0)] 1 = mkF m 0 #[.val (.int x0)] [] := by first | (simp [entryFrame, mkF, argsToLocals, Value.category]; done) | rfl
def Qvo (Z : State) (p1 : Int32) (aK : Addr) (cK : Cell) (h0 : Heap) (n0 : Nat) (v : Option Value) (h : Heap) (L : List Loc) : Prop := ∃ r : Addr, v = some (.ref r) ∧ Fr n0 L ∧ Keep h0 h [] ∧ Exa Z h r "java/lang/Integer" ∧ Fld Z h r "java/lang/Integer" "value" "I" (.int p1)
set_option maxRecDepth 65536 in
set_option maxHeartbeats 40000000 in
theorem rmvo (l : Launch) (Z : State) (a0 : Array Value) (hw : ∀ d ∈ tables_1, d.before a0 Z = true) (ws : List Jvm.Cond) (p1 : Int32) (aK : Addr) (cK : Cell) (h0 : Heap) (n0 : Nat) (Z0 : n0 ≤ h0.size) (SH : Sta Z Z.heap "java/lang/Integer$IntegerCache" "high" "I" (.int (127 : Int32))) (SC : Sta Z Z.heap "java/lang/Integer$IntegerCache" "cache" "[Ljava/lang/Integer;" (.ref aK)) (ArK : Arr Z Z.heap aK cK (.object "java/lang/Integer")) (szK : cK.slots.size = ((256 : Int32)).toNatClampNeg) (hall : ∀ j : Int32, ¬ j < 0 → j < (256 : Int32) → ∃ r : Addr, cK.slots[j.toNatClampNeg]? = some (.ref r) ∧ Exa Z Z.heap r "java/lang/Integer" ∧ Fld Z Z.heap r "java/lang/Integer" "value" "I" (.int (j - (128 : Int32)))) (Od : Old Z n0 h0) :
    MetFree l (⟨"java/lang/Integer", "valueOf", "(I)Ljava/lang/Integer;"⟩ : MethodName) (head1 (Jvm.Cond.code (⟨"java/lang/Integer", "valueOf", "(I)Ljava/lang/Integer;"⟩ : MethodName) jdk_33_method_22_code 1 (some (.object "java/lang/Integer")) :: ws) ({ frames := 3, cells := 1, slots := 1, locals := 38 } : Room)) (fun aQ UQ => aQ = #[(.int p1)] ∧ Z.Warmed39 UQ.vm ∧ UQ.heap = h0) (fun _ _ _ _ _ => True) (fun _ U o U' => ∃ v L, o = .returned v ∧ Qvo Z p1 aK cK h0 n0 v U'.heap L ∧ FrameEnd U o U' L ({ frames := 3, cells := 1, slots := 1, locals := 38 } : Room).cells ({ frames := 3, cells := 1, slots := 1, locals := 38 } : Room).slots) := by
  refine MetFree.of_bodySF (plainFor_of_name pnvo) hisR ?_
  intro p e s m args below meth c s₁ Bd hml0 hP hK
  obtain ⟨rfl, hZ, hh⟩ := hP
  have hx := Bd.exec
  have hby := Bd.bytes
  have hml : c.maxLocals = 1 := hml0
  have hown : s.vm.findClass "java/lang/Integer" = some m.cls := findClass_of_methodNamed Bd.named
  have hnm := (name_of_methodNamed Bd.named Bd.method).1
  have X0 : Stand p l e ({ frames := 3, cells := 1, slots := 1, locals := 38 } : Room) s m #[(.int p1)] below meth c s₁ [] 0 0 := Stand.of_body Bd
  have e0 : s₁.heap = h0 := by rw [← hh, Bd.state]; rfl
  have N0 := Fr.nil n0
  show OGo p e below (OPost s (Qvo Z p1 aK cK h0 n0) ({ frames := 3, cells := 1, slots := 1, locals := 38 } : Room).cells ({ frames := 3, cells := 1, slots := 1, locals := 38 } : Room).slots) (s₁.setTop (entryFrame m #[(.int p1)] 1))
  refine OGo.step (fun uK kK => castTop (efvo m p1) kK) ?_
  show OGo p e below _ (s₁.setTop (mkF m 0 #[.val (.int p1)] []))
  refine OGo.step (fun uK kK => XS.iloadN X0.here hx rfl (hb hby d1_0) rfl kK) ?_
  show OGo p e below _ (s₁.setTop (mkF m 1 #[.val (.int p1)] [(.int p1)]))
  refine OGo.step (fun uK kK => XS.bipush X0.here hx rfl (hb hby d1_1) kK) ?_
  show OGo p e below _ (s₁.setTop (mkF m 3 #[.val (.int p1)] [(.int (-128 : Int32)), (.int p1)]))
  by_cases hc3 : p1 < (-128 : Int32)
  · skip
    refine OGo.step (fun uK kK => XS.icmpYes X0.here hx rfl (pc0 := 3) (pc' := 23) rfl (hb hby d1_3) rfl (tlt hc3).1 (by decide) (by decide) kK) ?_
    show OGo p e below _ (s₁.setTop (mkF m 23 #[.val (.int p1)] []))
    obtain ⟨T1, h1, X1, e1, E1, A1, D1, -, st1⟩ := newO X0 hx hZ hown (hw _ (List.mem_of_getElem? (i := 32) rfl)) (hw _ (List.mem_of_getElem? (i := 33) rfl)) (hw _ (List.mem_of_getElem? (i := 5) rfl)) e0 (g := (mkF m 23 #[.val (.int p1)] [])) rfl (hb hby d1_23) (by decide) (by decide)
    obtain ⟨b1, g1⟩ : ∃ z, z = h0.size := ⟨_, rfl⟩
    rw [← g1] at A1 D1 st1
    have gn_b1 : n0 ≤ b1 := Nat.le_trans Z0 (Nat.le_of_eq g1.symm)
    have sz_b1 : h0.size ≤ b1 := Nat.le_trans (Keep.refl h0 []).1 (Nat.le_of_eq g1.symm)
    have ZS1 : n0 ≤ h1.size := Nat.le_trans Z0 E1.1
    have KC1 : Keep h0 h1 [] := (Keep.refl h0 []).ext E1
    have Od1 := Od.ext E1
    have Fvalue_b1 : Fld Z h1 b1 "java/lang/Integer" "value" "I" (.int (0 : Int32)) := D1 (Or.inr (hw _ (List.mem_of_getElem? (i := 29) rfl))) (ty := .int) (by decide)
    refine OGo.step (fun uK kK => st1 uK kK) ?_
    show OGo p e below _ (T1.setTop (mkF m 26 #[.val (.int p1)] [(.ref b1)]))
    refine OGo.step (fun uK kK => XS.dup X1.here hx rfl (hb hby d1_26) rfl rfl kK) ?_
    show OGo p e below _ (T1.setTop (mkF m 27 #[.val (.int p1)] [(.ref b1), (.ref b1)]))
    refine OGo.step (fun uK kK => XS.iloadN X1.here hx rfl (hb hby d1_27) rfl kK) ?_
    show OGo p e below _ (T1.setTop (mkF m 28 #[.val (.int p1)] [(.int p1), (.ref b1), (.ref b1)]))
    obtain ⟨_, _, ⟨T2, Lq2, kq_2, nq_2⟩, -, X2, ⟨Lc2, hQ2, lq2, yq2, zq2⟩, st2⟩ := X1.specialBack hx (y := (⟨"java/lang/Integer", "<init>", "(I)V"⟩ : MethodName)) rfl hown (mvT hZ (hw _ (List.mem_of_getElem? (i := 34) rfl))) (mvT hZ (hw _ (List.mem_of_getElem? (i := 35) rfl))) (mvT hZ (hw _ (List.mem_of_getElem? (i := 36) rfl))) (by decide) (backOf (W := 1) (rmii l Z a0 hw [] b1 p1  h1 n0 ZS1 Fvalue_b1 A1 gn_b1) hZ (hw _ (List.mem_of_getElem? (i := 36) rfl)) (hw _ (List.mem_of_getElem? (i := 5) rfl)) (by decide) (by decide)) (g := (mkF m 28 #[.val (.int p1)] [(.int p1), (.ref b1), (.ref b1)])) rfl (by rw [hml]; rfl) (Steps.refl _) (a := b1) (argsL := [(.int p1)]) (rest := [(.ref b1)]) (lenOf pdvo_0 rfl) rfl (by show 2 * 0 + _ ≤ _; exact Nat.le_of_eq rfl) (hb hby d1_28) (fun _ _ => ⟨rfl, e1, (by decide : 1 + 0 ≤ _), (by decide : 1 + 0 ≤ _)⟩)
    dsimp only [Pt.U, Pt.locs, Pt.cells, Pt.slots] at X2 lq2 yq2 zq2 st2 hQ2
    subst lq2 yq2 zq2
    obtain ⟨rfl, Nq2, K2, Fv2⟩ := hQ2
    have A1_3 := (A1.keep K2)
    have ZS2 : n0 ≤ T2.heap.size := Nat.le_trans ZS1 K2.1
    have KC2 : Keep h0 T2.heap [] := KC1.trans K2 (allS (Or.inr sz_b1) all0)
    have Od2 := Od1.keep K2 (allS gn_b1 all0)
    have N2 := Fr.app N0 Nq2
    refine OGo.steps st2 ?_
    show OGo p e below _ (T2.setTop (mkF m 31 #[.val (.int p1)] [(.ref b1)]))
    exact OGo.retR X2 hx Bd.notSynchronized Bd.returns rfl rfl (hb hby d1_31) (by decide) (by decide) (by exact ⟨b1, rfl, N2, KC2, A1_3, Fv2⟩)
  · skip
    refine OGo.step (fun uK kK => XS.icmpNo X0.here hx rfl (hb hby d1_3) rfl (flt hc3).1 kK) ?_
    show OGo p e below _ (s₁.setTop (mkF m 6 #[.val (.int p1)] []))
    refine OGo.step (fun uK kK => XS.iloadN X0.here hx rfl (hb hby d1_6) rfl kK) ?_
    show OGo p e below _ (s₁.setTop (mkF m 7 #[.val (.int p1)] [(.int p1)]))
    obtain ⟨T5, X5, e5, st5⟩ := getS2 X0 hx hZ hown (host := "") (Or.inl (hw _ (List.mem_of_getElem? (i := 7) rfl))) Via.refl e0 (SH.ext Od.2) (g := (mkF m 7 #[.val (.int p1)] [(.int p1)])) rfl (hb hby d1_7)
    refine OGo.step (fun uK kK => st5 uK kK) ?_
    show OGo p e below _ (T5.setTop (mkF m 10 #[.val (.int p1)] [(.int (127 : Int32)), (.int p1)]))
    by_cases hc10 : (127 : Int32) < p1
    · skip
      refine OGo.step (fun uK kK => XS.icmpYes X5.here hx rfl (pc0 := 10) (pc' := 23) rfl (hb hby d1_10) rfl (tlt hc10).2.2.1 (by decide) (by decide) kK) ?_
      show OGo p e below _ (T5.setTop (mkF m 23 #[.val (.int p1)] []))
      obtain ⟨T6, h6, X6, e6, E6, A6, D6, -, st6⟩ := newO X5 hx hZ hown (hw _ (List.mem_of_getElem? (i := 32) rfl)) (hw _ (List.mem_of_getElem? (i := 33) rfl)) (hw _ (List.mem_of_getElem? (i := 5) rfl)) e5 (g := (mkF m 23 #[.val (.int p1)] [])) rfl (hb hby d1_23) (by decide) (by decide)
      obtain ⟨b6, g6⟩ : ∃ z, z = h0.size := ⟨_, rfl⟩
      rw [← g6] at A6 D6 st6
      have gn_b6 : n0 ≤ b6 := Nat.le_trans Z0 (Nat.le_of_eq g6.symm)
      have sz_b6 : h0.size ≤ b6 := Nat.le_trans (Keep.refl h0 []).1 (Nat.le_of_eq g6.symm)
      have ZS6 : n0 ≤ h6.size := Nat.le_trans Z0 E6.1
      have KC6 : Keep h0 h6 [] := (Keep.refl h0 []).ext E6
      have Od6 := Od.ext E6
      have Fvalue_b6 : Fld Z h6 b6 "java/lang/Integer" "value" "I" (.int (0 : Int32)) := D6 (Or.inr (hw _ (List.mem_of_getElem? (i := 29) rfl))) (ty := .int) (by decide)
      refine OGo.step (fun uK kK => st6 uK kK) ?_
      show OGo p e below _ (T6.setTop (mkF m 26 #[.val (.int p1)] [(.ref b6)]))
      refine OGo.step (fun uK kK => XS.dup X6.here hx rfl (hb hby d1_26) rfl rfl kK) ?_
      show OGo p e below _ (T6.setTop (mkF m 27 #[.val (.int p1)] [(.ref b6), (.ref b6)]))
      refine OGo.step (fun uK kK => XS.iloadN X6.here hx rfl (hb hby d1_27) rfl kK) ?_
      show OGo p e below _ (T6.setTop (mkF m 28 #[.val (.int p1)] [(.int p1), (.ref b6), (.ref b6)]))
      obtain ⟨_, _, ⟨T7, Lq7, kq_7, nq_7⟩, -, X7, ⟨Lc7, hQ7, lq7, yq7, zq7⟩, st7⟩ := X6.specialBack hx (y := (⟨"java/lang/Integer", "<init>", "(I)V"⟩ : MethodName)) rfl hown (mvT hZ (hw _ (List.mem_of_getElem? (i := 34) rfl))) (mvT hZ (hw _ (List.mem_of_getElem? (i := 35) rfl))) (mvT hZ (hw _ (List.mem_of_getElem? (i := 36) rfl))) (by decide) (backOf (W := 1) (rmii l Z a0 hw [] b6 p1  h6 n0 ZS6 Fvalue_b6 A6 gn_b6) hZ (hw _ (List.mem_of_getElem? (i := 36) rfl)) (hw _ (List.mem_of_getElem? (i := 5) rfl)) (by decide) (by decide)) (g := (mkF m 28 #[.val (.int p1)] [(.int p1), (.ref b6), (.ref b6)])) rfl (by rw [hml]; rfl) (Steps.refl _) (a := b6) (argsL := [(.int p1)]) (rest := [(.ref b6)]) (lenOf pdvo_0 rfl) rfl (by show 2 * 0 + _ ≤ _; exact Nat.le_of_eq rfl) (hb hby d1_28) (fun _ _ => ⟨rfl, e6, (by decide : 1 + 0 ≤ _), (by decide : 1 + 0 ≤ _)⟩)
      dsimp only [Pt.U, Pt.locs, Pt.cells, Pt.slots] at X7 lq7 yq7 zq7 st7 hQ7
      subst lq7 yq7 zq7
      obtain ⟨rfl, Nq7, K7, Fv7⟩ := hQ7
      have A6_8 := (A6.keep K7)
      have ZS7 : n0 ≤ T7.heap.size := Nat.le_trans ZS6 K7.1
      have KC7 : Keep h0 T7.heap [] := KC6.trans K7 (allS (Or.inr sz_b6) all0)
      have Od7 := Od6.keep K7 (allS gn_b6 all0)
      have N7 := Fr.app N0 Nq7
      refine OGo.steps st7 ?_
      show OGo p e below _ (T7.setTop (mkF m 31 #[.val (.int p1)] [(.ref b6)]))
      exact OGo.retR X7 hx Bd.notSynchronized Bd.returns rfl rfl (hb hby d1_31) (by decide) (by decide) (by exact ⟨b6, rfl, N7, KC7, A6_8, Fv7⟩)
    · skip
      refine OGo.step (fun uK kK => XS.icmpNo X5.here hx rfl (hb hby d1_10) rfl (flt hc10).2.2.1 kK) ?_
      show OGo p e below _ (T5.setTop (mkF m 13 #[.val (.int p1)] []))
      obtain ⟨T10, X10, e10, st10⟩ := getS2 X5 hx hZ hown (host := "") (Or.inl (hw _ (List.mem_of_getElem? (i := 9) rfl))) Via.refl e5 (SC.ext Od.2) (g := (mkF m 13 #[.val (.int p1)] [])) rfl (hb hby d1_13)
      refine OGo.step (fun uK kK => st10 uK kK) ?_
      show OGo p e below _ (T10.setTop (mkF m 16 #[.val (.int p1)] [(.ref aK)]))
      refine OGo.step (fun uK kK => XS.iloadN X10.here hx rfl (hb hby d1_16) rfl kK) ?_
      show OGo p e below _ (T10.setTop (mkF m 17 #[.val (.int p1)] [(.int p1), (.ref aK)]))
      refine OGo.step (fun uK kK => XS.sipush X10.here hx rfl (hb hby d1_17) kK) ?_
      show OGo p e below _ (T10.setTop (mkF m 20 #[.val (.int p1)] [(.int (128 : Int32)), (.int p1), (.ref aK)]))
      refine OGo.step (fun uK kK => XS.iadd X10.here hx rfl (hb hby d1_20) rfl kK) ?_
      show OGo p e below _ (T10.setTop (mkF m 21 #[.val (.int p1)] [(.int (p1 + (128 : Int32))), (.ref aK)]))
      obtain ⟨r_, hatK, ErK, FrK⟩ := hall (p1 + (128 : Int32)) (own_idx p1 hc3 hc10).1 (own_idx p1 hc3 hc10).2
      have ArK0 := ArK.ext Od.2
      refine OGo.step (fun uK kK => X10.aaload hx (j := (p1 + (128 : Int32))) (v := (.ref r_)) (by rw [e10]; exact ArK0.1) (State.isArrayOf_alike hZ.alike ArK0.2.1) rfl ArK0.2.2 (inb_of szK (own_idx p1 hc3 hc10)) hatK (g := (mkF m 21 #[.val (.int p1)] [(.int (p1 + (128 : Int32))), (.ref aK)])) rfl rfl (hb hby d1_21) uK kK) ?_
      show OGo p e below _ (T10.setTop (mkF m 22 #[.val (.int p1)] [(.ref r_)]))
      exact OGo.retR X10 hx Bd.notSynchronized Bd.returns rfl rfl (hb hby d1_22) (by decide) (by decide) (by show Qvo Z p1 aK cK h0 n0 _ T10.heap _; rw [e10]; exact ⟨r_, rfl, N0, (Keep.refl h0 []), ErK.ext Od.2, by have q := FrK.ext Od.2; rw [own_128] at q; exact q⟩)
theorem d4_0 : decode jdk_33_method_27_code 0 = .ok (.aload_n 0, 1) := by decide +kernel
theorem d4_1 : decode jdk_33_method_27_code 1 = .ok (.getfield 205, 3) := by decide +kernel
theorem d4_4 : decode jdk_33_method_27_code 4 = .ok (.ireturn, 1) := by decide +kernel
theorem pniv : plainName "java/lang/Integer" = true := by first | (simp [plainName, overriddenIn]; done) | decide +kernel
theorem efiv (m : MethodId) (x0 : Addr) : entryFrame m #[(.ref x0)] 1 = mkF m 0 #[.val (.ref x0)] [] := by first | (simp [entryFrame, mkF, argsToLocals, Value.category]; done) | rfl
def Qiv (Z : State) (a : Addr) (i : Int32) (h0 : Heap) (n0 : Nat) (v : Option Value) (h : Heap) (L : List Loc) : Prop := v = some (.int i) ∧ Fr n0 L ∧ h = h0
set_option maxRecDepth 65536 in
set_option maxHeartbeats 40000000 in
theorem rmiv (l : Launch) (Z : State) (a0 : Array Value) (hw : ∀ d ∈ tables_1, d.before a0 Z = true) (ws : List Jvm.Cond) (a : Addr) (i : Int32) (h0 : Heap) (n0 : Nat) (Z0 : n0 ≤ h0.size) (Fv : Fld Z h0 a "java/lang/Integer" "value" "I" (.int i)) :
    MetFree l (⟨"java/lang/Integer", "intValue", "()I"⟩ : MethodName) (head1 (Jvm.Cond.code (⟨"java/lang/Integer", "intValue", "()I"⟩ : MethodName) jdk_33_method_27_code 1 (some .int) :: ws) ({ frames := 0, cells := 0, slots := 0, locals := 0 } : Room)) (fun aQ UQ => aQ = #[(.ref a)] ∧ Z.Warmed39 UQ.vm ∧ UQ.heap = h0) (fun _ _ _ _ _ => True) (fun _ U o U' => ∃ v L, o = .returned v ∧ Qiv Z a i h0 n0 v U'.heap L ∧ FrameEnd U o U' L ({ frames := 0, cells := 0, slots := 0, locals := 0 } : Room).cells ({ frames := 0, cells := 0, slots := 0, locals := 0 } : Room).slots) := by
  refine MetFree.of_bodySF (plainFor_of_name pniv) hisR ?_
  intro p e s m args below meth c s₁ Bd hml0 hP hK
  obtain ⟨rfl, hZ, hh⟩ := hP
  have hx := Bd.exec
  have hby := Bd.bytes
  have hml : c.maxLocals = 1 := hml0
  have hown : s.vm.findClass "java/lang/Integer" = some m.cls := findClass_of_methodNamed Bd.named
  have hnm := (name_of_methodNamed Bd.named Bd.method).1
  have X0 : Stand p l e ({ frames := 0, cells := 0, slots := 0, locals := 0 } : Room) s m #[(.ref a)] below meth c s₁ [] 0 0 := Stand.of_body Bd
  have e0 : s₁.heap = h0 := by rw [← hh, Bd.state]; rfl
  have N0 := Fr.nil n0
  show OGo p e below (OPost s (Qiv Z a i h0 n0) ({ frames := 0, cells := 0, slots := 0, locals := 0 } : Room).cells ({ frames := 0, cells := 0, slots := 0, locals := 0 } : Room).slots) (s₁.setTop (entryFrame m #[(.ref a)] 1))
  refine OGo.step (fun uK kK => castTop (efiv m a) kK) ?_
  show OGo p e below _ (s₁.setTop (mkF m 0 #[.val (.ref a)] []))
  refine OGo.step (fun uK kK => XS.aloadN X0.here hx rfl (hb hby d4_0) rfl rfl kK) ?_
  show OGo p e below _ (s₁.setTop (mkF m 1 #[.val (.ref a)] [(.ref a)]))
  obtain ⟨T1, X1, e1, st1⟩ := getF X0 hx hZ hown (host := "") (Or.inl (hw _ (List.mem_of_getElem? (i := 28) rfl))) Via.refl e0 Fv (g := (mkF m 1 #[.val (.ref a)] [(.ref a)])) rfl rfl (hb hby d4_1)
  refine OGo.step (fun uK kK => st1 uK kK) ?_
  show OGo p e below _ (T1.setTop (mkF m 4 #[.val (.ref a)] [(.int i)]))
  exact OGo.retI X1 hx Bd.notSynchronized Bd.returns (hb hby d4_4) (by decide) (by decide) (by show Qiv Z a i h0 n0 _ T1.heap _; rw [e1]; exact ⟨rfl, N0, rfl⟩)
theorem d3_0 : decode prog_9_method_4_code 0 = .ok (.aload_n 0, 1) := by decide +kernel
theorem d3_1 : decode prog_9_method_4_code 1 = .ok (.getstatic 3, 3) := by decide +kernel
theorem d3_4 : decode prog_9_method_4_code 4 = .ok (.if_acmp .ne 7, 3) := by decide +kernel
theorem d3_7 : decode prog_9_method_4_code 7 = .ok (.aload_n 2, 1) := by decide +kernel
theorem d3_8 : decode prog_9_method_4_code 8 = .ok (.goto 4, 3) := by decide +kernel
theorem d3_12 : decode prog_9_method_4_code 12 = .ok (.areturn, 1) := by decide +kernel
theorem pnrB : plainName "com/example/amphisbaena/amphisbaena/format/Direction" = true := by first | (simp [plainName, overriddenIn]; done) | decide +kernel
theorem efrB (m : MethodId) (x0 : Addr) (x1 : Addr) (x2 : Addr) : entryFrame m #[(.ref x0), (.ref x1), (.ref x2)] 3 = mkF m 0 #[.val (.ref x0), .val (.ref x1), .val (.ref x2)] [] := by first | (simp [entryFrame, mkF, argsToLocals, Value.category]; done) | rfl
def QrB (Z : State) (aB : Addr) (y1 : Addr) (y2 : Addr) (h0 : Heap) (n0 : Nat) (v : Option Value) (h : Heap) (L : List Loc) : Prop := v = some (.ref y2) ∧ Fr n0 L ∧ h = h0
set_option maxRecDepth 65536 in
set_option maxHeartbeats 40000000 in
theorem rmrB (l : Launch) (Z : State) (a0 : Array Value) (hw : ∀ d ∈ tables_1, d.before a0 Z = true) (ws : List Jvm.Cond) (aB : Addr) (y1 : Addr) (y2 : Addr) (h0 : Heap) (n0 : Nat) (Z0 : n0 ≤ h0.size) (SB : Sta Z h0 "com/example/amphisbaena/amphisbaena/format/Direction" "BACKWARD" "Lcom/example/amphisbaena/amphisbaena/format/Direction;" (.ref aB)) :
    MetFree l (⟨"com/example/amphisbaena/amphisbaena/format/Direction", "reader", "(Ljava/lang/Object;Ljava/lang/Object;)Ljava/lang/Object;"⟩ : MethodName) (head1 (Jvm.Cond.code (⟨"com/example/amphisbaena/amphisbaena/format/Direction", "reader", "(Ljava/lang/Object;Ljava/lang/Object;)Ljava/lang/Object;"⟩ : MethodName) prog_9_method_4_code 3 (some (.object "java/lang/Object")) :: ws) ({ frames := 0, cells := 0, slots := 0, locals := 0 } : Room)) (fun aQ UQ => aQ = #[(.ref aB), (.ref y1), (.ref y2)] ∧ Z.Warmed39 UQ.vm ∧ UQ.heap = h0) (fun _ _ _ _ _ => True) (fun _ U o U' => ∃ v L, o = .returned v ∧ QrB Z aB y1 y2 h0 n0 v U'.heap L ∧ FrameEnd U o U' L ({ frames := 0, cells := 0, slots := 0, locals := 0 } : Room).cells ({ frames := 0, cells := 0, slots := 0, locals := 0 } : Room).slots) := by
  refine MetFree.of_bodySF (plainFor_of_name pnrB) hisR ?_
  intro p e s m args below meth c s₁ Bd hml0 hP hK
  obtain ⟨rfl, hZ, hh⟩ := hP
  have hx := Bd.exec
  have hby := Bd.bytes
  have hml : c.maxLocals = 3 := hml0
  have hown : s.vm.findClass "com/example/amphisbaena/amphisbaena/format/Direction" = some m.cls := findClass_of_methodNamed Bd.named
  have hnm := (name_of_methodNamed Bd.named Bd.method).1
  have X0 : Stand p l e ({ frames := 0, cells := 0, slots := 0, locals := 0 } : Room) s m #[(.ref aB), (.ref y1), (.ref y2)] below meth c s₁ [] 0 0 := Stand.of_body Bd
  have e0 : s₁.heap = h0 := by rw [← hh, Bd.state]; rfl
  have N0 := Fr.nil n0
  show OGo p e below (OPost s (QrB Z aB y1 y2 h0 n0) ({ frames := 0, cells := 0, slots := 0, locals := 0 } : Room).cells ({ frames := 0, cells := 0, slots := 0, locals := 0 } : Room).slots) (s₁.setTop (entryFrame m #[(.ref aB), (.ref y1), (.ref y2)] 3))
  refine OGo.step (fun uK kK => castTop (efrB m aB y1 y2) kK) ?_
  show OGo p e below _ (s₁.setTop (mkF m 0 #[.val (.ref aB), .val (.ref y1), .val (.ref y2)] []))
  refine OGo.step (fun uK kK => XS.aloadN X0.here hx rfl (hb hby d3_0) rfl rfl kK) ?_
  show OGo p e below _ (s₁.setTop (mkF m 1 #[.val (.ref aB), .val (.ref y1), .val (.ref y2)] [(.ref aB)]))
  obtain ⟨T1, X1, e1, st1⟩ := getS2 X0 hx hZ hown (host := "") (Or.inl (hw _ (List.mem_of_getElem? (i := 15) rfl))) Via.refl e0 SB (g := (mkF m 1 #[.val (.ref aB), .val (.ref y1), .val (.ref y2)] [(.ref aB)])) rfl (hb hby d3_1)
  refine OGo.step (fun uK kK => st1 uK kK) ?_
  show OGo p e below _ (T1.setTop (mkF m 4 #[.val (.ref aB), .val (.ref y1), .val (.ref y2)] [(.ref aB), (.ref aB)]))
  refine OGo.step (fun uK kK => Jvm.RoadKit.acmp (g := (mkF m 4 #[.val (.ref aB), .val (.ref y1), .val (.ref y2)] [(.ref aB), (.ref aB)])) X1 hx rfl rfl rfl (pc0 := 4) (pc' := 7) (same := true) rfl (hb hby d3_4) rfl (decide_eq_true rfl) (by decide) (by decide) kK) ?_
  show OGo p e below _ (T1.setTop (mkF m 7 #[.val (.ref aB), .val (.ref y1), .val (.ref y2)] []))
  refine OGo.step (fun uK kK => XS.aloadN X1.here hx rfl (hb hby d3_7) rfl rfl kK) ?_
  show OGo p e below _ (T1.setTop (mkF m 8 #[.val (.ref aB), .val (.ref y1), .val (.ref y2)] [(.ref y2)]))
  refine OGo.step (fun uK kK => XS.goto X1.here hx rfl (pc0 := 8) (pc' := 12) rfl (hb hby d3_8) (by decide) (by decide) kK) ?_
  show OGo p e below _ (T1.setTop (mkF m 12 #[.val (.ref aB), .val (.ref y1), .val (.ref y2)] [(.ref y2)]))
  exact OGo.retR X1 hx Bd.notSynchronized Bd.returns rfl rfl (hb hby d3_12) (by decide) (by decide) (by show QrB Z aB y1 y2 h0 n0 _ T1.heap _; rw [e1]; exact ⟨rfl, N0, rfl⟩)
theorem d3_11 : decode prog_9_method_4_code 11 = .ok (.aload_n 1, 1) := by decide +kernel
theorem pnrF : plainName "com/example/amphisbaena/amphisbaena/format/Direction" = true := by first | (simp [plainName, overriddenIn]; done) | decide +kernel
theorem efrF (m : MethodId) (x0 : Addr) (x1 : Addr) (x2 : Addr) : entryFrame m #[(.ref x0), (.ref x1), (.ref x2)] 3 = mkF m 0 #[.val (.ref x0), .val (.ref x1), .val (.ref x2)] [] := by first | (simp [entryFrame, mkF, argsToLocals, Value.category]; done) | rfl
def QrF (Z : State) (aF : Addr) (y1 : Addr) (y2 : Addr) (aB : Addr) (h0 : Heap) (n0 : Nat) (v : Option Value) (h : Heap) (L : List Loc) : Prop := v = some (.ref y1) ∧ Fr n0 L ∧ h = h0
set_option maxRecDepth 65536 in
set_option maxHeartbeats 40000000 in
theorem rmrF (l : Launch) (Z : State) (a0 : Array Value) (hw : ∀ d ∈ tables_1, d.before a0 Z = true) (ws : List Jvm.Cond) (aF : Addr) (y1 : Addr) (y2 : Addr) (aB : Addr) (h0 : Heap) (n0 : Nat) (Z0 : n0 ≤ h0.size) (SB : Sta Z h0 "com/example/amphisbaena/amphisbaena/format/Direction" "BACKWARD" "Lcom/example/amphisbaena/amphisbaena/format/Direction;" (.ref aB)) (neF : ¬ (aF = aB)) :
    MetFree l (⟨"com/example/amphisbaena/amphisbaena/format/Direction", "reader", "(Ljava/lang/Object;Ljava/lang/Object;)Ljava/lang/Object;"⟩ : MethodName) (head1 (Jvm.Cond.code (⟨"com/example/amphisbaena/amphisbaena/format/Direction", "reader", "(Ljava/lang/Object;Ljava/lang/Object;)Ljava/lang/Object;"⟩ : MethodName) prog_9_method_4_code 3 (some (.object "java/lang/Object")) :: ws) ({ frames := 0, cells := 0, slots := 0, locals := 0 } : Room)) (fun aQ UQ => aQ = #[(.ref aF), (.ref y1), (.ref y2)] ∧ Z.Warmed39 UQ.vm ∧ UQ.heap = h0) (fun _ _ _ _ _ => True) (fun _ U o U' => ∃ v L, o = .returned v ∧ QrF Z aF y1 y2 aB h0 n0 v U'.heap L ∧ FrameEnd U o U' L ({ frames := 0, cells := 0, slots := 0, locals := 0 } : Room).cells ({ frames := 0, cells := 0, slots := 0, locals := 0 } : Room).slots) := by
  refine MetFree.of_bodySF (plainFor_of_name pnrF) hisR ?_
  intro p e s m args below meth c s₁ Bd hml0 hP hK
  obtain ⟨rfl, hZ, hh⟩ := hP
  have hx := Bd.exec
  have hby := Bd.bytes
  have hml : c.maxLocals = 3 := hml0
  have hown : s.vm.findClass "com/example/amphisbaena/amphisbaena/format/Direction" = some m.cls := findClass_of_methodNamed Bd.named
  have hnm := (name_of_methodNamed Bd.named Bd.method).1
  have X0 : Stand p l e ({ frames := 0, cells := 0, slots := 0, locals := 0 } : Room) s m #[(.ref aF), (.ref y1), (.ref y2)] below meth c s₁ [] 0 0 := Stand.of_body Bd
  have e0 : s₁.heap = h0 := by rw [← hh, Bd.state]; rfl
  have N0 := Fr.nil n0
  show OGo p e below (OPost s (QrF Z aF y1 y2 aB h0 n0) ({ frames := 0, cells := 0, slots := 0, locals := 0 } : Room).cells ({ frames := 0, cells := 0, slots := 0, locals := 0 } : Room).slots) (s₁.setTop (entryFrame m #[(.ref aF), (.ref y1), (.ref y2)] 3))
  refine OGo.step (fun uK kK => castTop (efrF m aF y1 y2) kK) ?_
  show OGo p e below _ (s₁.setTop (mkF m 0 #[.val (.ref aF), .val (.ref y1), .val (.ref y2)] []))
  refine OGo.step (fun uK kK => XS.aloadN X0.here hx rfl (hb hby d3_0) rfl rfl kK) ?_
  show OGo p e below _ (s₁.setTop (mkF m 1 #[.val (.ref aF), .val (.ref y1), .val (.ref y2)] [(.ref aF)]))
  obtain ⟨T1, X1, e1, st1⟩ := getS2 X0 hx hZ hown (host := "") (Or.inl (hw _ (List.mem_of_getElem? (i := 15) rfl))) Via.refl e0 SB (g := (mkF m 1 #[.val (.ref aF), .val (.ref y1), .val (.ref y2)] [(.ref aF)])) rfl (hb hby d3_1)
  refine OGo.step (fun uK kK => st1 uK kK) ?_
  show OGo p e below _ (T1.setTop (mkF m 4 #[.val (.ref aF), .val (.ref y1), .val (.ref y2)] [(.ref aB), (.ref aF)]))
  have ha4 : ¬ (aF = aB) := neF
  refine OGo.step (fun uK kK => Jvm.RoadKit.acmp (g := (mkF m 4 #[.val (.ref aF), .val (.ref y1), .val (.ref y2)] [(.ref aB), (.ref aF)])) X1 hx rfl rfl rfl (pc0 := 4) (pc' := 11) (same := false) rfl (hb hby d3_4) rfl (decide_eq_false fun q => ha4 (Value.ref.inj q)) (by decide) (by decide) kK) ?_
  show OGo p e below _ (T1.setTop (mkF m 11 #[.val (.ref aF), .val (.ref y1), .val (.ref y2)] []))
  refine OGo.step (fun uK kK => XS.aloadN X1.here hx rfl (hb hby d3_11) rfl rfl kK) ?_
  show OGo p e below _ (T1.setTop (mkF m 12 #[.val (.ref aF), .val (.ref y1), .val (.ref y2)] [(.ref y1)]))
  exact OGo.retR X1 hx Bd.notSynchronized Bd.returns rfl rfl (hb hby d3_12) (by decide) (by decide) (by show QrF Z aF y1 y2 aB h0 n0 _ T1.heap _; rw [e1]; exact ⟨rfl, N0, rfl⟩)
theorem d2_0 : decode prog_9_method_5_code 0 = .ok (.aload_n 0, 1) := by decide +kernel
theorem d2_1 : decode prog_9_method_5_code 1 = .ok (.getstatic 3, 3) := by decide +kernel
theorem d2_4 : decode prog_9_method_5_code 4 = .ok (.if_acmp .ne 7, 3) := by decide +kernel
theorem d2_7 : decode prog_9_method_5_code 7 = .ok (.aload_n 1, 1) := by decide +kernel
theorem d2_8 : decode prog_9_method_5_code 8 = .ok (.goto 4, 3) := by decide +kernel
theorem d2_12 : decode prog_9_method_5_code 12 = .ok (.areturn, 1) := by decide +kernel
theorem pnwB : plainName "com/example/amphisbaena/amphisbaena/format/Direction" = true := by first | (simp [plainName, overriddenIn]; done) | decide +kernel
theorem efwB (m : MethodId) (x0 : Addr) (x1 : Addr) (x2 : Addr) : entryFrame m #[(.ref x0), (.ref x1), (.ref x2)] 3 = mkF m 0 #[.val (.ref x0), .val (.ref x1), .val (.ref x2)] [] := by first | (simp [entryFrame, mkF, argsToLocals, Value.category]; done) | rfl
def QwB (Z : State) (aB : Addr) (y1 : Addr) (y2 : Addr) (h0 : Heap) (n0 : Nat) (v : Option Value) (h : Heap) (L : List Loc) : Prop := v = some (.ref y1) ∧ Fr n0 L ∧ h = h0
set_option maxRecDepth 65536 in
set_option maxHeartbeats 40000000 in
theorem rmwB (l : Launch) (Z : State) (a0 : Array Value) (hw : ∀ d ∈ tables_1, d.before a0 Z = true) (ws : List Jvm.Cond) (aB : Addr) (y1 : Addr) (y2 : Addr) (h0 : Heap) (n0 : Nat) (Z0 : n0 ≤ h0.size) (SB : Sta Z h0 "com/example/amphisbaena/amphisbaena/format/Direction" "BACKWARD" "Lcom/example/amphisbaena/amphisbaena/format/Direction;" (.ref aB)) :
    MetFree l (⟨"com/example/amphisbaena/amphisbaena/format/Direction", "writer", "(Ljava/lang/Object;Ljava/lang/Object;)Ljava/lang/Object;"⟩ : MethodName) (head1 (Jvm.Cond.code (⟨"com/example/amphisbaena/amphisbaena/format/Direction", "writer", "(Ljava/lang/Object;Ljava/lang/Object;)Ljava/lang/Object;"⟩ : MethodName) prog_9_method_5_code 3 (some (.object "java/lang/Object")) :: ws) ({ frames := 0, cells := 0, slots := 0, locals := 0 } : Room)) (fun aQ UQ => aQ = #[(.ref aB), (.ref y1), (.ref y2)] ∧ Z.Warmed39 UQ.vm ∧ UQ.heap = h0) (fun _ _ _ _ _ => True) (fun _ U o U' => ∃ v L, o = .returned v ∧ QwB Z aB y1 y2 h0 n0 v U'.heap L ∧ FrameEnd U o U' L ({ frames := 0, cells := 0, slots := 0, locals := 0 } : Room).cells ({ frames := 0, cells := 0, slots := 0, locals := 0 } : Room).slots) := by
  refine MetFree.of_bodySF (plainFor_of_name pnwB) hisR ?_
  intro p e s m args below meth c s₁ Bd hml0 hP hK
  obtain ⟨rfl, hZ, hh⟩ := hP
  have hx := Bd.exec
  have hby := Bd.bytes
  have hml : c.maxLocals = 3 := hml0
  have hown : s.vm.findClass "com/example/amphisbaena/amphisbaena/format/Direction" = some m.cls := findClass_of_methodNamed Bd.named
  have hnm := (name_of_methodNamed Bd.named Bd.method).1
  have X0 : Stand p l e ({ frames := 0, cells := 0, slots := 0, locals := 0 } : Room) s m #[(.ref aB), (.ref y1), (.ref y2)] below meth c s₁ [] 0 0 := Stand.of_body Bd
  have e0 : s₁.heap = h0 := by rw [← hh, Bd.state]; rfl
  have N0 := Fr.nil n0
  show OGo p e below (OPost s (QwB Z aB y1 y2 h0 n0) ({ frames := 0, cells := 0, slots := 0, locals := 0 } : Room).cells ({ frames := 0, cells := 0, slots := 0, locals := 0 } : Room).slots) (s₁.setTop (entryFrame m #[(.ref aB), (.ref y1), (.ref y2)] 3))
  refine OGo.step (fun uK kK => castTop (efwB m aB y1 y2) kK) ?_
  show OGo p e below _ (s₁.setTop (mkF m 0 #[.val (.ref aB), .val (.ref y1), .val (.ref y2)] []))
  refine OGo.step (fun uK kK => XS.aloadN X0.here hx rfl (hb hby d2_0) rfl rfl kK) ?_
  show OGo p e below _ (s₁.setTop (mkF m 1 #[.val (.ref aB), .val (.ref y1), .val (.ref y2)] [(.ref aB)]))
  obtain ⟨T1, X1, e1, st1⟩ := getS2 X0 hx hZ hown (host := "") (Or.inl (hw _ (List.mem_of_getElem? (i := 15) rfl))) Via.refl e0 SB (g := (mkF m 1 #[.val (.ref aB), .val (.ref y1), .val (.ref y2)] [(.ref aB)])) rfl (hb hby d2_1)
  refine OGo.step (fun uK kK => st1 uK kK) ?_
  show OGo p e below _ (T1.setTop (mkF m 4 #[.val (.ref aB), .val (.ref y1), .val (.ref y2)] [(.ref aB), (.ref aB)]))
  refine OGo.step (fun uK kK => Jvm.RoadKit.acmp (g := (mkF m 4 #[.val (.ref aB), .val (.ref y1), .val (.ref y2)] [(.ref aB), (.ref aB)])) X1 hx rfl rfl rfl (pc0 := 4) (pc' := 7) (same := true) rfl (hb hby d2_4) rfl (decide_eq_true rfl) (by decide) (by decide) kK) ?_
  show OGo p e below _ (T1.setTop (mkF m 7 #[.val (.ref aB), .val (.ref y1), .val (.ref y2)] []))
  refine OGo.step (fun uK kK => XS.aloadN X1.here hx rfl (hb hby d2_7) rfl rfl kK) ?_
  show OGo p e below _ (T1.setTop (mkF m 8 #[.val (.ref aB), .val (.ref y1), .val (.ref y2)] [(.ref y1)]))
  refine OGo.step (fun uK kK => XS.goto X1.here hx rfl (pc0 := 8) (pc' := 12) rfl (hb hby d2_8) (by decide) (by decide) kK) ?_
  show OGo p e below _ (T1.setTop (mkF m 12 #[.val (.ref aB), .val (.ref y1), .val (.ref y2)] [(.ref y1)]))
  exact OGo.retR X1 hx Bd.notSynchronized Bd.returns rfl rfl (hb hby d2_12) (by decide) (by decide) (by show QwB Z aB y1 y2 h0 n0 _ T1.heap _; rw [e1]; exact ⟨rfl, N0, rfl⟩)
theorem d2_11 : decode prog_9_method_5_code 11 = .ok (.aload_n 2, 1) := by decide +kernel
theorem pnwF : plainName "com/example/amphisbaena/amphisbaena/format/Direction" = true := by first | (simp [plainName, overriddenIn]; done) | decide +kernel
theorem efwF (m : MethodId) (x0 : Addr) (x1 : Addr) (x2 : Addr) : entryFrame m #[(.ref x0), (.ref x1), (.ref x2)] 3 = mkF m 0 #[.val (.ref x0), .val (.ref x1), .val (.ref x2)] [] := by first | (simp [entryFrame, mkF, argsToLocals, Value.category]; done) | rfl
def QwF (Z : State) (aF : Addr) (y1 : Addr) (y2 : Addr) (aB : Addr) (h0 : Heap) (n0 : Nat) (v : Option Value) (h : Heap) (L : List Loc) : Prop := v = some (.ref y2) ∧ Fr n0 L ∧ h = h0
set_option maxRecDepth 65536 in
set_option maxHeartbeats 40000000 in
theorem rmwF (l : Launch) (Z : State) (a0 : Array Value) (hw : ∀ d ∈ tables_1, d.before a0 Z = true) (ws : List Jvm.Cond) (aF : Addr) (y1 : Addr) (y2 : Addr) (aB : Addr) (h0 : Heap) (n0 : Nat) (Z0 : n0 ≤ h0.size) (SB : Sta Z h0 "com/example/amphisbaena/amphisbaena/format/Direction" "BACKWARD" "Lcom/example/amphisbaena/amphisbaena/format/Direction;" (.ref aB)) (neF : ¬ (aF = aB)) :
    MetFree l (⟨"com/example/amphisbaena/amphisbaena/format/Direction", "writer", "(Ljava/lang/Object;Ljava/lang/Object;)Ljava/lang/Object;"⟩ : MethodName) (head1 (Jvm.Cond.code (⟨"com/example/amphisbaena/amphisbaena/format/Direction", "writer", "(Ljava/lang/Object;Ljava/lang/Object;)Ljava/lang/Object;"⟩ : MethodName) prog_9_method_5_code 3 (some (.object "java/lang/Object")) :: ws) ({ frames := 0, cells := 0, slots := 0, locals := 0 } : Room)) (fun aQ UQ => aQ = #[(.ref aF), (.ref y1), (.ref y2)] ∧ Z.Warmed39 UQ.vm ∧ UQ.heap = h0) (fun _ _ _ _ _ => True) (fun _ U o U' => ∃ v L, o = .returned v ∧ QwF Z aF y1 y2 aB h0 n0 v U'.heap L ∧ FrameEnd U o U' L ({ frames := 0, cells := 0, slots := 0, locals := 0 } : Room).cells ({ frames := 0, cells := 0, slots := 0, locals := 0 } : Room).slots) := by
  refine MetFree.of_bodySF (plainFor_of_name pnwF) hisR ?_
  intro p e s m args below meth c s₁ Bd hml0 hP hK
  obtain ⟨rfl, hZ, hh⟩ := hP
  have hx := Bd.exec
  have hby := Bd.bytes
  have hml : c.maxLocals = 3 := hml0
  have hown : s.vm.findClass "com/example/amphisbaena/amphisbaena/format/Direction" = some m.cls := findClass_of_methodNamed Bd.named
  have hnm := (name_of_methodNamed Bd.named Bd.method).1
  have X0 : Stand p l e ({ frames := 0, cells := 0, slots := 0, locals := 0 } : Room) s m #[(.ref aF), (.ref y1), (.ref y2)] below meth c s₁ [] 0 0 := Stand.of_body Bd
  have e0 : s₁.heap = h0 := by rw [← hh, Bd.state]; rfl
  have N0 := Fr.nil n0
  show OGo p e below (OPost s (QwF Z aF y1 y2 aB h0 n0) ({ frames := 0, cells := 0, slots := 0, locals := 0 } : Room).cells ({ frames := 0, cells := 0, slots := 0, locals := 0 } : Room).slots) (s₁.setTop (entryFrame m #[(.ref aF), (.ref y1), (.ref y2)] 3))
  refine OGo.step (fun uK kK => castTop (efwF m aF y1 y2) kK) ?_
  show OGo p e below _ (s₁.setTop (mkF m 0 #[.val (.ref aF), .val (.ref y1), .val (.ref y2)] []))
  refine OGo.step (fun uK kK => XS.aloadN X0.here hx rfl (hb hby d2_0) rfl rfl kK) ?_
  show OGo p e below _ (s₁.setTop (mkF m 1 #[.val (.ref aF), .val (.ref y1), .val (.ref y2)] [(.ref aF)]))
  obtain ⟨T1, X1, e1, st1⟩ := getS2 X0 hx hZ hown (host := "") (Or.inl (hw _ (List.mem_of_getElem? (i := 15) rfl))) Via.refl e0 SB (g := (mkF m 1 #[.val (.ref aF), .val (.ref y1), .val (.ref y2)] [(.ref aF)])) rfl (hb hby d2_1)
  refine OGo.step (fun uK kK => st1 uK kK) ?_
  show OGo p e below _ (T1.setTop (mkF m 4 #[.val (.ref aF), .val (.ref y1), .val (.ref y2)] [(.ref aB), (.ref aF)]))
  have ha4 : ¬ (aF = aB) := neF
  refine OGo.step (fun uK kK => Jvm.RoadKit.acmp (g := (mkF m 4 #[.val (.ref aF), .val (.ref y1), .val (.ref y2)] [(.ref aB), (.ref aF)])) X1 hx rfl rfl rfl (pc0 := 4) (pc' := 11) (same := false) rfl (hb hby d2_4) rfl (decide_eq_false fun q => ha4 (Value.ref.inj q)) (by decide) (by decide) kK) ?_
  show OGo p e below _ (T1.setTop (mkF m 11 #[.val (.ref aF), .val (.ref y1), .val (.ref y2)] []))
  refine OGo.step (fun uK kK => XS.aloadN X1.here hx rfl (hb hby d2_11) rfl rfl kK) ?_
  show OGo p e below _ (T1.setTop (mkF m 12 #[.val (.ref aF), .val (.ref y1), .val (.ref y2)] [(.ref y2)]))
  exact OGo.retR X1 hx Bd.notSynchronized Bd.returns rfl rfl (hb hby d2_12) (by decide) (by decide) (by show QwF Z aF y1 y2 aB h0 n0 _ T1.heap _; rw [e1]; exact ⟨rfl, N0, rfl⟩)
theorem pn0 : plainName "com/example/amphisbaena/amphisbaena/format/DirectionWriterPinLaw" = true := by first | (simp [plainName, overriddenIn]; done) | decide +kernel
theorem pd0_0 : parseMethodDescriptor "(I)Ljava/lang/Integer;" = some ⟨[.int], some (.object "java/lang/Integer")⟩ := by decide +kernel
theorem pd0_1 : parseMethodDescriptor "(Ljava/lang/Object;Ljava/lang/Object;)Ljava/lang/Object;" = some ⟨[(.object "java/lang/Object"), (.object "java/lang/Object")], some (.object "java/lang/Object")⟩ := by decide +kernel
theorem pd0_2 : parseMethodDescriptor "()I" = some ⟨[], some .int⟩ := by decide +kernel
theorem ef0 (m : MethodId) (x0 : Int32) (x1 : Int32) (x2 : Int32) : entryFrame m #[(.int x0), (.int x1), (.int x2)] maxLocals = mkF m 0 #[.val (.int x0), .val (.int x1), .val (.int x2), .unset, .unset, .unset, .unset, .unset, .unset, .unset, .unset, .unset, .unset, .unset, .unset] [] := by first | (simp [entryFrame, mkF, argsToLocals, Value.category, maxLocals]; done) | rfl
def Q0 (Z : State) (p0 : Int32) (p1 : Int32) (p2 : Int32) (aK : Addr) (cK : Cell) (aB : Addr) (aF : Addr) (h0 : Heap) (n0 : Nat) (v : Option Value) (h : Heap) (L : List Loc) : Prop := v = some (.int 1) ∧ Fr n0 L
set_option maxRecDepth 65536 in
set_option maxHeartbeats 40000000 in
theorem rm0 (l : Launch) (Z : State) (a0 : Array Value) (hw : ∀ d ∈ tables_1, d.before a0 Z = true) (ws : List Jvm.Cond) (p0 : Int32) (p1 : Int32) (p2 : Int32) (aK : Addr) (cK : Cell) (aB : Addr) (aF : Addr) (h0 : Heap) (n0 : Nat) (Z0 : n0 ≤ h0.size) (SH : Sta Z Z.heap "java/lang/Integer$IntegerCache" "high" "I" (.int (127 : Int32))) (SC : Sta Z Z.heap "java/lang/Integer$IntegerCache" "cache" "[Ljava/lang/Integer;" (.ref aK)) (ArK : Arr Z Z.heap aK cK (.object "java/lang/Integer")) (szK : cK.slots.size = ((256 : Int32)).toNatClampNeg) (hall : ∀ j : Int32, ¬ j < 0 → j < (256 : Int32) → ∃ r : Addr, cK.slots[j.toNatClampNeg]? = some (.ref r) ∧ Exa Z Z.heap r "java/lang/Integer" ∧ Fld Z Z.heap r "java/lang/Integer" "value" "I" (.int (j - (128 : Int32)))) (SB : Sta Z Z.heap "com/example/amphisbaena/amphisbaena/format/Direction" "BACKWARD" "Lcom/example/amphisbaena/amphisbaena/format/Direction;" (.ref aB)) (SF : Sta Z Z.heap "com/example/amphisbaena/amphisbaena/format/Direction" "FORWARD" "Lcom/example/amphisbaena/amphisbaena/format/Direction;" (.ref aF)) (EB : Exa Z Z.heap aB "com/example/amphisbaena/amphisbaena/format/Direction") (EF : Exa Z Z.heap aF "com/example/amphisbaena/amphisbaena/format/Direction") (neF : ¬ (aF = aB)) (Od : Old Z n0 h0) :
    MetFree l x (head1 (Jvm.Cond.code x code maxLocals ret :: ws) room_1) (fun aQ UQ => aQ = #[(.int p0), (.int p1), (.int p2)] ∧ Z.Warmed39 UQ.vm ∧ UQ.heap = h0) (fun _ _ _ _ _ => True) (fun _ U o U' => ∃ v L, o = .returned v ∧ Q0 Z p0 p1 p2 aK cK aB aF h0 n0 v U'.heap L ∧ FrameEnd U o U' L room_1.cells room_1.slots) := by
  refine MetFree.of_bodySF (plainFor_of_name pn0) hisR ?_
  intro p e s m args below meth c s₁ Bd hml0 hP hK
  obtain ⟨rfl, hZ, hh⟩ := hP
  have hx := Bd.exec
  have hby := Bd.bytes
  have hml : c.maxLocals = 15 := hml0
  have hown : s.vm.findClass "com/example/amphisbaena/amphisbaena/format/DirectionWriterPinLaw" = some m.cls := findClass_of_methodNamed Bd.named
  have hnm := (name_of_methodNamed Bd.named Bd.method).1
  have X0 : Stand p l e room_1 s m #[(.int p0), (.int p1), (.int p2)] below meth c s₁ [] 0 0 := Stand.of_body Bd
  have e0 : s₁.heap = h0 := by rw [← hh, Bd.state]; rfl
  have N0 := Fr.nil n0
  show OGo p e below (OPost s (Q0 Z p0 p1 p2 aK cK aB aF h0 n0) room_1.cells room_1.slots) (s₁.setTop (entryFrame m #[(.int p0), (.int p1), (.int p2)] maxLocals))
  refine OGo.step (fun uK kK => castTop (ef0 m p0 p1 p2) kK) ?_
  show OGo p e below _ (s₁.setTop (mkF m 0 #[.val (.int p0), .val (.int p1), .val (.int p2), .unset, .unset, .unset, .unset, .unset, .unset, .unset, .unset, .unset, .unset, .unset, .unset] []))
  refine OGo.step (fun uK kK => XS.iloadN X0.here hx rfl (hb hby at_0) rfl kK) ?_
  show OGo p e below _ (s₁.setTop (mkF m 1 #[.val (.int p0), .val (.int p1), .val (.int p2), .unset, .unset, .unset, .unset, .unset, .unset, .unset, .unset, .unset, .unset, .unset, .unset] [(.int p0)]))
  refine OGo.step (fun uK kK => XS.iconst X0.here hx rfl (hb hby at_1) kK) ?_
  show OGo p e below _ (s₁.setTop (mkF m 2 #[.val (.int p0), .val (.int p1), .val (.int p2), .unset, .unset, .unset, .unset, .unset, .unset, .unset, .unset, .unset, .unset, .unset, .unset] [(.int (1 : Int32)), (.int p0)]))
  refine OGo.step (fun uK kK => XS.iand X0.here hx rfl (hb hby at_2) rfl kK) ?_
  show OGo p e below _ (s₁.setTop (mkF m 3 #[.val (.int p0), .val (.int p1), .val (.int p2), .unset, .unset, .unset, .unset, .unset, .unset, .unset, .unset, .unset, .unset, .unset, .unset] [(.int (p0 &&& (1 : Int32)))]))
  refine OGo.step (t' := s₁.setTop (mkF m 11 #[.val (.int p0), .val (.int p1), .val (.int p2), .unset, .unset, .unset, .unset, .unset, .unset, .unset, .unset, .unset, .unset, .unset, .unset] [(.int (if (p0 &&& (1 : Int32)) = (0 : Int32) then (0 : Int32) else (1 : Int32)))])) (fun uK kK => ?_) ?_
  · show Steps p.tables e below (s₁.setTop (mkF m 3 #[.val (.int p0), .val (.int p1), .val (.int p2), .unset, .unset, .unset, .unset, .unset, .unset, .unset, .unset, .unset, .unset, .unset, .unset] [(.int (p0 &&& (1 : Int32)))])) _
    by_cases hm3_1 : (p0 &&& (1 : Int32)) = (0 : Int32)
    · try rw [if_pos hm3_1] at kK
      refine XS.ifYes X0.here hx rfl (pc0 := 3) (pc' := 10) rfl (hb hby at_3) rfl ((if0 _ _).trans (teq hm3_1).1) (by decide) (by decide) ?_
      refine XS.iconst X0.here hx rfl (hb hby at_10) ?_
      show Steps p.tables e below (s₁.setTop (mkF m 11 #[.val (.int p0), .val (.int p1), .val (.int p2), .unset, .unset, .unset, .unset, .unset, .unset, .unset, .unset, .unset, .unset, .unset, .unset] [(.int (0 : Int32))])) _
      exact kK
    · try rw [if_neg hm3_1] at kK
      refine XS.ifNo X0.here hx rfl (hb hby at_3) rfl ((if0 _ _).trans (feq hm3_1).1) ?_
      refine XS.iconst X0.here hx rfl (hb hby at_6) ?_
      show Steps p.tables e below (s₁.setTop (mkF m 7 #[.val (.int p0), .val (.int p1), .val (.int p2), .unset, .unset, .unset, .unset, .unset, .unset, .unset, .unset, .unset, .unset, .unset, .unset] [(.int (1 : Int32))])) _
      refine XS.goto X0.here hx rfl (pc0 := 7) (pc' := 11) rfl (hb hby at_7) (by decide) (by decide) ?_
      show Steps p.tables e below (s₁.setTop (mkF m 11 #[.val (.int p0), .val (.int p1), .val (.int p2), .unset, .unset, .unset, .unset, .unset, .unset, .unset, .unset, .unset, .unset, .unset, .unset] [(.int (1 : Int32))])) _
      exact kK
  show OGo p e below _ (s₁.setTop (mkF m 11 #[.val (.int p0), .val (.int p1), .val (.int p2), .unset, .unset, .unset, .unset, .unset, .unset, .unset, .unset, .unset, .unset, .unset, .unset] [(.int (if (p0 &&& (1 : Int32)) = (0 : Int32) then (0 : Int32) else (1 : Int32)))]))
  obtain ⟨fw, ev_fw⟩ : ∃ z : Int32, z = (if (p0 &&& (1 : Int32)) = (0 : Int32) then (0 : Int32) else (1 : Int32)) := ⟨_, rfl⟩
  rw [← ev_fw]
  show OGo p e below _ (s₁.setTop (mkF m 11 #[.val (.int p0), .val (.int p1), .val (.int p2), .unset, .unset, .unset, .unset, .unset, .unset, .unset, .unset, .unset, .unset, .unset, .unset] [(.int fw)]))
  refine OGo.step (fun uK kK => XS.istoreN X0.here hx rfl (hb hby at_11) rfl (l' := #[.val (.int p0), .val (.int p1), .val (.int p2), .val (.int fw), .unset, .unset, .unset, .unset, .unset, .unset, .unset, .unset, .unset, .unset, .unset]) rfl kK) ?_
  show OGo p e below _ (s₁.setTop (mkF m 12 #[.val (.int p0), .val (.int p1), .val (.int p2), .val (.int fw), .unset, .unset, .unset, .unset, .unset, .unset, .unset, .unset, .unset, .unset, .unset] []))
  refine OGo.step (fun uK kK => XS.iloadN X0.here hx rfl (hb hby at_12) rfl kK) ?_
  show OGo p e below _ (s₁.setTop (mkF m 13 #[.val (.int p0), .val (.int p1), .val (.int p2), .val (.int fw), .unset, .unset, .unset, .unset, .unset, .unset, .unset, .unset, .unset, .unset, .unset] [(.int fw)]))
  by_cases hc13 : fw = (0 : Int32)
  · skip
    refine OGo.step (fun uK kK => XS.ifYes X0.here hx rfl (pc0 := 13) (pc' := 22) rfl (hb hby at_13) rfl ((if0 _ _).trans (teq hc13).1) (by decide) (by decide) kK) ?_
    show OGo p e below _ (s₁.setTop (mkF m 22 #[.val (.int p0), .val (.int p1), .val (.int p2), .val (.int fw), .unset, .unset, .unset, .unset, .unset, .unset, .unset, .unset, .unset, .unset, .unset] []))
    obtain ⟨T2, X2, e2, st2⟩ := getS2 X0 hx hZ hown (host := "") (Or.inl (hw _ (List.mem_of_getElem? (i := 0) rfl))) Via.refl e0 (SB.ext Od.2) (g := (mkF m 22 #[.val (.int p0), .val (.int p1), .val (.int p2), .val (.int fw), .unset, .unset, .unset, .unset, .unset, .unset, .unset, .unset, .unset, .unset, .unset] [])) rfl (hb hby at_22)
    refine OGo.step (fun uK kK => st2 uK kK) ?_
    show OGo p e below _ (T2.setTop (mkF m 25 #[.val (.int p0), .val (.int p1), .val (.int p2), .val (.int fw), .unset, .unset, .unset, .unset, .unset, .unset, .unset, .unset, .unset, .unset, .unset] [(.ref aB)]))
    refine OGo.step (fun uK kK => XS.astore X2.here hx rfl (hb hby at_25) rfl rfl (l' := #[.val (.int p0), .val (.int p1), .val (.int p2), .val (.int fw), .val (.ref aB), .unset, .unset, .unset, .unset, .unset, .unset, .unset, .unset, .unset, .unset]) rfl kK) ?_
    show OGo p e below _ (T2.setTop (mkF m 27 #[.val (.int p0), .val (.int p1), .val (.int p2), .val (.int fw), .val (.ref aB), .unset, .unset, .unset, .unset, .unset, .unset, .unset, .unset, .unset, .unset] []))
    refine OGo.step (fun uK kK => XS.iloadN X2.here hx rfl (hb hby at_27) rfl kK) ?_
    show OGo p e below _ (T2.setTop (mkF m 28 #[.val (.int p0), .val (.int p1), .val (.int p2), .val (.int fw), .val (.ref aB), .unset, .unset, .unset, .unset, .unset, .unset, .unset, .unset, .unset, .unset] [(.int p1)]))
    obtain ⟨_, _, ⟨T3, Lq3, kq_3, nq_3⟩, -, X3, ⟨Lc3, hQ3, lq3, yq3, zq3⟩, st3⟩ := Jvm.LawKit.callS X2 hx (y := (⟨"java/lang/Integer", "valueOf", "(I)Ljava/lang/Integer;"⟩ : MethodName)) hown (mvT hZ (hw _ (List.mem_of_getElem? (i := 3) rfl))) (mvT hZ (hw _ (List.mem_of_getElem? (i := 4) rfl))) (mvT hZ (hw _ (List.mem_of_getElem? (i := 5) rfl))) (mvT hZ (hw _ (List.mem_of_getElem? (i := 6) rfl))) (by decide) (backOf (W := 0) (rmvo l Z a0 hw [] p1 aK cK h0 n0 Z0 SH SC ArK szK hall Od) hZ (hw _ (List.mem_of_getElem? (i := 6) rfl)) (hw _ (List.mem_of_getElem? (i := 5) rfl)) (by decide) (by decide)) (g := (mkF m 28 #[.val (.int p0), .val (.int p1), .val (.int p2), .val (.int fw), .val (.ref aB), .unset, .unset, .unset, .unset, .unset, .unset, .unset, .unset, .unset, .unset] [(.int p1)])) rfl (by rw [hml]; rfl) (argsL := [(.int p1)]) (rest := []) (lenOf pd0_0 rfl) rfl (by show 2 * 0 + _ ≤ _; exact Nat.le_of_eq rfl) (hb hby at_28) (fun _ _ => ⟨rfl, e2, (by decide : 0 + 1 ≤ _), (by decide : 0 + 1 ≤ _)⟩)
    dsimp only [Pt.U, Pt.locs, Pt.cells, Pt.slots] at X3 lq3 yq3 zq3 st3 hQ3
    subst lq3 yq3 zq3
    obtain ⟨r_28, rfl, Nq3, K3, Er3, Fv3⟩ := hQ3
    have ZS3 : n0 ≤ T3.heap.size := Nat.le_trans Z0 K3.1
    have KC3 : Keep h0 T3.heap [] := (Keep.refl h0 []).trans K3 all0
    have Od3 := Od.keep K3 all0
    have N3 := Fr.app N0 Nq3
    refine OGo.step (fun uK kK => st3 uK kK) ?_
    show OGo p e below _ (T3.setTop (mkF m 31 #[.val (.int p0), .val (.int p1), .val (.int p2), .val (.int fw), .val (.ref aB), .unset, .unset, .unset, .unset, .unset, .unset, .unset, .unset, .unset, .unset] [(.ref r_28)]))
    refine OGo.step (fun uK kK => XS.astore X3.here hx rfl (hb hby at_31) rfl rfl (l' := #[.val (.int p0), .val (.int p1), .val (.int p2), .val (.int fw), .val (.ref aB), .val (.ref r_28), .unset, .unset, .unset, .unset, .unset, .unset, .unset, .unset, .unset]) rfl kK) ?_
    show OGo p e below _ (T3.setTop (mkF m 33 #[.val (.int p0), .val (.int p1), .val (.int p2), .val (.int fw), .val (.ref aB), .val (.ref r_28), .unset, .unset, .unset, .unset, .unset, .unset, .unset, .unset, .unset] []))
    refine OGo.step (fun uK kK => XS.iloadN X3.here hx rfl (hb hby at_33) rfl kK) ?_
    show OGo p e below _ (T3.setTop (mkF m 34 #[.val (.int p0), .val (.int p1), .val (.int p2), .val (.int fw), .val (.ref aB), .val (.ref r_28), .unset, .unset, .unset, .unset, .unset, .unset, .unset, .unset, .unset] [(.int p2)]))
    obtain ⟨_, _, ⟨T4, Lq4, kq_4, nq_4⟩, -, X4, ⟨Lc4, hQ4, lq4, yq4, zq4⟩, st4⟩ := Jvm.LawKit.callS X3 hx (y := (⟨"java/lang/Integer", "valueOf", "(I)Ljava/lang/Integer;"⟩ : MethodName)) hown (mvT hZ (hw _ (List.mem_of_getElem? (i := 3) rfl))) (mvT hZ (hw _ (List.mem_of_getElem? (i := 4) rfl))) (mvT hZ (hw _ (List.mem_of_getElem? (i := 5) rfl))) (mvT hZ (hw _ (List.mem_of_getElem? (i := 6) rfl))) (by decide) (backOf (W := 0) (rmvo l Z a0 hw [] p2 aK cK T3.heap n0 ZS3 SH SC ArK szK hall Od3) hZ (hw _ (List.mem_of_getElem? (i := 6) rfl)) (hw _ (List.mem_of_getElem? (i := 5) rfl)) (by decide) (by decide)) (g := (mkF m 34 #[.val (.int p0), .val (.int p1), .val (.int p2), .val (.int fw), .val (.ref aB), .val (.ref r_28), .unset, .unset, .unset, .unset, .unset, .unset, .unset, .unset, .unset] [(.int p2)])) rfl (by rw [hml]; rfl) (argsL := [(.int p2)]) (rest := []) (lenOf pd0_0 rfl) rfl (by show 2 * 0 + _ ≤ _; exact Nat.le_of_eq rfl) (hb hby at_34) (fun _ _ => ⟨rfl, rfl, (by decide : 1 + 1 ≤ _), (by decide : 1 + 1 ≤ _)⟩)
    dsimp only [Pt.U, Pt.locs, Pt.cells, Pt.slots] at X4 lq4 yq4 zq4 st4 hQ4
    subst lq4 yq4 zq4
    obtain ⟨r_34, rfl, Nq4, K4, Er4, Fv4⟩ := hQ4
    have Er3_5 := (Er3.keep K4)
    have Fv3_6 := (Fv3.keep K4 nin0)
    have ZS4 : n0 ≤ T4.heap.size := Nat.le_trans ZS3 K4.1
    have KC4 : Keep h0 T4.heap [] := KC3.trans K4 all0
    have Od4 := Od3.keep K4 all0
    have N4 := Fr.app N3 Nq4
    refine OGo.step (fun uK kK => st4 uK kK) ?_
    show OGo p e below _ (T4.setTop (mkF m 37 #[.val (.int p0), .val (.int p1), .val (.int p2), .val (.int fw), .val (.ref aB), .val (.ref r_28), .unset, .unset, .unset, .unset, .unset, .unset, .unset, .unset, .unset] [(.ref r_34)]))
    refine OGo.step (fun uK kK => XS.astore X4.here hx rfl (hb hby at_37) rfl rfl (l' := #[.val (.int p0), .val (.int p1), .val (.int p2), .val (.int fw), .val (.ref aB), .val (.ref r_28), .val (.ref r_34), .unset, .unset, .unset, .unset, .unset, .unset, .unset, .unset]) rfl kK) ?_
    show OGo p e below _ (T4.setTop (mkF m 39 #[.val (.int p0), .val (.int p1), .val (.int p2), .val (.int fw), .val (.ref aB), .val (.ref r_28), .val (.ref r_34), .unset, .unset, .unset, .unset, .unset, .unset, .unset, .unset] []))
    refine OGo.step (fun uK kK => XS.aload X4.here hx rfl (hb hby at_39) rfl rfl kK) ?_
    show OGo p e below _ (T4.setTop (mkF m 41 #[.val (.int p0), .val (.int p1), .val (.int p2), .val (.int fw), .val (.ref aB), .val (.ref r_28), .val (.ref r_34), .unset, .unset, .unset, .unset, .unset, .unset, .unset, .unset] [(.ref aB)]))
    refine OGo.step (fun uK kK => XS.aload X4.here hx rfl (hb hby at_41) rfl rfl kK) ?_
    show OGo p e below _ (T4.setTop (mkF m 43 #[.val (.int p0), .val (.int p1), .val (.int p2), .val (.int fw), .val (.ref aB), .val (.ref r_28), .val (.ref r_34), .unset, .unset, .unset, .unset, .unset, .unset, .unset, .unset] [(.ref r_28), (.ref aB)]))
    refine OGo.step (fun uK kK => XS.aload X4.here hx rfl (hb hby at_43) rfl rfl kK) ?_
    show OGo p e below _ (T4.setTop (mkF m 45 #[.val (.int p0), .val (.int p1), .val (.int p2), .val (.int fw), .val (.ref aB), .val (.ref r_28), .val (.ref r_34), .unset, .unset, .unset, .unset, .unset, .unset, .unset, .unset] [(.ref r_34), (.ref r_28), (.ref aB)]))
    obtain ⟨cq7, kq7, q7a, q7b, q7c⟩ := isOf hZ rfl (EB.ext Od4.2)
    obtain ⟨_, _, ⟨T7, Lq7, kq_7, nq_7⟩, -, X7, ⟨Lc7, hQ7, lq7, yq7, zq7⟩, st7⟩ := X4.virtualBack hx (y := (⟨"com/example/amphisbaena/amphisbaena/format/Direction", "writer", "(Ljava/lang/Object;Ljava/lang/Object;)Ljava/lang/Object;"⟩ : MethodName)) (z := (⟨"com/example/amphisbaena/amphisbaena/format/Direction", "writer", "(Ljava/lang/Object;Ljava/lang/Object;)Ljava/lang/Object;"⟩ : MethodName)) hown (mvT hZ (hw _ (List.mem_of_getElem? (i := 10) rfl))) (mvT hZ (hw _ (List.mem_of_getElem? (i := 11) rfl))) (notFace_of_selects (args := #[]) (mvT hZ (hw _ (List.mem_of_getElem? (i := 13) rfl)))) (mvT hZ (hw _ (List.mem_of_getElem? (i := 13) rfl))) (mvT hZ (hw _ (List.mem_of_getElem? (i := 12) rfl))) (by decide) (backOf (W := 0) (rmwB l Z a0 hw [] aB r_28 r_34  T4.heap n0 ZS4 (SB.ext Od4.2)) hZ (hw _ (List.mem_of_getElem? (i := 14) rfl)) (hw _ (List.mem_of_getElem? (i := 1) rfl)) (by decide) (by decide)) q7a q7c (g := (mkF m 45 #[.val (.int p0), .val (.int p1), .val (.int p2), .val (.int fw), .val (.ref aB), .val (.ref r_28), .val (.ref r_34), .unset, .unset, .unset, .unset, .unset, .unset, .unset, .unset] [(.ref r_34), (.ref r_28), (.ref aB)])) rfl (by rw [hml]; rfl) (Steps.refl _) (argsL := [(.ref r_28), (.ref r_34)]) (rest := []) (lenOf pd0_1 rfl) rfl (by show 2 * 0 + _ ≤ _; exact Nat.le_of_eq rfl) (hb hby at_45) (fun _ _ => ⟨rfl, rfl, (by decide : 2 + 0 ≤ _), (by decide : 2 + 0 ≤ _)⟩)
    dsimp only [Pt.U, Pt.locs, Pt.cells, Pt.slots] at X7 lq7 yq7 zq7 st7 hQ7
    subst lq7 yq7 zq7
    obtain ⟨rfl, Nq7, e7⟩ := hQ7
    have N7 := Fr.app N4 Nq7
    refine OGo.steps st7 ?_
    show OGo p e below _ (T7.setTop (mkF m 48 #[.val (.int p0), .val (.int p1), .val (.int p2), .val (.int fw), .val (.ref aB), .val (.ref r_28), .val (.ref r_34), .unset, .unset, .unset, .unset, .unset, .unset, .unset, .unset] [(.ref r_28)]))
    obtain ⟨T8, X8, e8, st8⟩ := castY X7 hx hZ hown (hw _ (List.mem_of_getElem? (i := 16) rfl)) e7 (Ins.self Er3_5) (g := (mkF m 48 #[.val (.int p0), .val (.int p1), .val (.int p2), .val (.int fw), .val (.ref aB), .val (.ref r_28), .val (.ref r_34), .unset, .unset, .unset, .unset, .unset, .unset, .unset, .unset] [(.ref r_28)])) rfl rfl (hb hby at_48)
    refine OGo.step (fun uK kK => st8 uK kK) ?_
    show OGo p e below _ (T8.setTop (mkF m 51 #[.val (.int p0), .val (.int p1), .val (.int p2), .val (.int fw), .val (.ref aB), .val (.ref r_28), .val (.ref r_34), .unset, .unset, .unset, .unset, .unset, .unset, .unset, .unset] [(.ref r_28)]))
    refine OGo.step (fun uK kK => XS.astore X8.here hx rfl (hb hby at_51) rfl rfl (l' := #[.val (.int p0), .val (.int p1), .val (.int p2), .val (.int fw), .val (.ref aB), .val (.ref r_28), .val (.ref r_34), .val (.ref r_28), .unset, .unset, .unset, .unset, .unset, .unset, .unset]) rfl kK) ?_
    show OGo p e below _ (T8.setTop (mkF m 53 #[.val (.int p0), .val (.int p1), .val (.int p2), .val (.int fw), .val (.ref aB), .val (.ref r_28), .val (.ref r_34), .val (.ref r_28), .unset, .unset, .unset, .unset, .unset, .unset, .unset] []))
    refine OGo.step (fun uK kK => XS.aload X8.here hx rfl (hb hby at_53) rfl rfl kK) ?_
    show OGo p e below _ (T8.setTop (mkF m 55 #[.val (.int p0), .val (.int p1), .val (.int p2), .val (.int fw), .val (.ref aB), .val (.ref r_28), .val (.ref r_34), .val (.ref r_28), .unset, .unset, .unset, .unset, .unset, .unset, .unset] [(.ref aB)]))
    refine OGo.step (fun uK kK => XS.aload X8.here hx rfl (hb hby at_55) rfl rfl kK) ?_
    show OGo p e below _ (T8.setTop (mkF m 57 #[.val (.int p0), .val (.int p1), .val (.int p2), .val (.int fw), .val (.ref aB), .val (.ref r_28), .val (.ref r_34), .val (.ref r_28), .unset, .unset, .unset, .unset, .unset, .unset, .unset] [(.ref r_28), (.ref aB)]))
    refine OGo.step (fun uK kK => XS.aload X8.here hx rfl (hb hby at_57) rfl rfl kK) ?_
    show OGo p e below _ (T8.setTop (mkF m 59 #[.val (.int p0), .val (.int p1), .val (.int p2), .val (.int fw), .val (.ref aB), .val (.ref r_28), .val (.ref r_34), .val (.ref r_28), .unset, .unset, .unset, .unset, .unset, .unset, .unset] [(.ref r_34), (.ref r_28), (.ref aB)]))
    obtain ⟨cq9, kq9, q9a, q9b, q9c⟩ := isOf hZ e8 (EB.ext Od4.2)
    obtain ⟨_, _, ⟨T9, Lq9, kq_9, nq_9⟩, -, X9, ⟨Lc9, hQ9, lq9, yq9, zq9⟩, st9⟩ := X8.virtualBack hx (y := (⟨"com/example/amphisbaena/amphisbaena/format/Direction", "reader", "(Ljava/lang/Object;Ljava/lang/Object;)Ljava/lang/Object;"⟩ : MethodName)) (z := (⟨"com/example/amphisbaena/amphisbaena/format/Direction", "reader", "(Ljava/lang/Object;Ljava/lang/Object;)Ljava/lang/Object;"⟩ : MethodName)) hown (mvT hZ (hw _ (List.mem_of_getElem? (i := 18) rfl))) (mvT hZ (hw _ (List.mem_of_getElem? (i := 19) rfl))) (notFace_of_selects (args := #[]) (mvT hZ (hw _ (List.mem_of_getElem? (i := 21) rfl)))) (mvT hZ (hw _ (List.mem_of_getElem? (i := 21) rfl))) (mvT hZ (hw _ (List.mem_of_getElem? (i := 20) rfl))) (by decide) (backOf (W := 0) (rmrB l Z a0 hw [] aB r_28 r_34  T4.heap n0 ZS4 (SB.ext Od4.2)) hZ (hw _ (List.mem_of_getElem? (i := 22) rfl)) (hw _ (List.mem_of_getElem? (i := 1) rfl)) (by decide) (by decide)) q9a q9c (g := (mkF m 59 #[.val (.int p0), .val (.int p1), .val (.int p2), .val (.int fw), .val (.ref aB), .val (.ref r_28), .val (.ref r_34), .val (.ref r_28), .unset, .unset, .unset, .unset, .unset, .unset, .unset] [(.ref r_34), (.ref r_28), (.ref aB)])) rfl (by rw [hml]; rfl) (Steps.refl _) (argsL := [(.ref r_28), (.ref r_34)]) (rest := []) (lenOf pd0_1 rfl) rfl (by show 2 * 0 + _ ≤ _; exact Nat.le_of_eq rfl) (hb hby at_59) (fun _ _ => ⟨rfl, e8, (by decide : 2 + 0 ≤ _), (by decide : 2 + 0 ≤ _)⟩)
    dsimp only [Pt.U, Pt.locs, Pt.cells, Pt.slots] at X9 lq9 yq9 zq9 st9 hQ9
    subst lq9 yq9 zq9
    obtain ⟨rfl, Nq9, e9⟩ := hQ9
    have N9 := Fr.app N7 Nq9
    refine OGo.steps st9 ?_
    show OGo p e below _ (T9.setTop (mkF m 62 #[.val (.int p0), .val (.int p1), .val (.int p2), .val (.int fw), .val (.ref aB), .val (.ref r_28), .val (.ref r_34), .val (.ref r_28), .unset, .unset, .unset, .unset, .unset, .unset, .unset] [(.ref r_34)]))
    obtain ⟨T10, X10, e10, st10⟩ := castY X9 hx hZ hown (hw _ (List.mem_of_getElem? (i := 16) rfl)) e9 (Ins.self Er4) (g := (mkF m 62 #[.val (.int p0), .val (.int p1), .val (.int p2), .val (.int fw), .val (.ref aB), .val (.ref r_28), .val (.ref r_34), .val (.ref r_28), .unset, .unset, .unset, .unset, .unset, .unset, .unset] [(.ref r_34)])) rfl rfl (hb hby at_62)
    refine OGo.step (fun uK kK => st10 uK kK) ?_
    show OGo p e below _ (T10.setTop (mkF m 65 #[.val (.int p0), .val (.int p1), .val (.int p2), .val (.int fw), .val (.ref aB), .val (.ref r_28), .val (.ref r_34), .val (.ref r_28), .unset, .unset, .unset, .unset, .unset, .unset, .unset] [(.ref r_34)]))
    refine OGo.step (fun uK kK => XS.astore X10.here hx rfl (hb hby at_65) rfl rfl (l' := #[.val (.int p0), .val (.int p1), .val (.int p2), .val (.int fw), .val (.ref aB), .val (.ref r_28), .val (.ref r_34), .val (.ref r_28), .val (.ref r_34), .unset, .unset, .unset, .unset, .unset, .unset]) rfl kK) ?_
    show OGo p e below _ (T10.setTop (mkF m 67 #[.val (.int p0), .val (.int p1), .val (.int p2), .val (.int fw), .val (.ref aB), .val (.ref r_28), .val (.ref r_34), .val (.ref r_28), .val (.ref r_34), .unset, .unset, .unset, .unset, .unset, .unset] []))
    refine OGo.step (fun uK kK => XS.aload X10.here hx rfl (hb hby at_67) rfl rfl kK) ?_
    show OGo p e below _ (T10.setTop (mkF m 69 #[.val (.int p0), .val (.int p1), .val (.int p2), .val (.int fw), .val (.ref aB), .val (.ref r_28), .val (.ref r_34), .val (.ref r_28), .val (.ref r_34), .unset, .unset, .unset, .unset, .unset, .unset] [(.ref aB)]))
    refine OGo.step (fun uK kK => XS.aload X10.here hx rfl (hb hby at_69) rfl rfl kK) ?_
    show OGo p e below _ (T10.setTop (mkF m 71 #[.val (.int p0), .val (.int p1), .val (.int p2), .val (.int fw), .val (.ref aB), .val (.ref r_28), .val (.ref r_34), .val (.ref r_28), .val (.ref r_34), .unset, .unset, .unset, .unset, .unset, .unset] [(.ref r_34), (.ref aB)]))
    refine OGo.step (fun uK kK => XS.aload X10.here hx rfl (hb hby at_71) rfl rfl kK) ?_
    show OGo p e below _ (T10.setTop (mkF m 73 #[.val (.int p0), .val (.int p1), .val (.int p2), .val (.int fw), .val (.ref aB), .val (.ref r_28), .val (.ref r_34), .val (.ref r_28), .val (.ref r_34), .unset, .unset, .unset, .unset, .unset, .unset] [(.ref r_28), (.ref r_34), (.ref aB)]))
    obtain ⟨cq11, kq11, q11a, q11b, q11c⟩ := isOf hZ e10 (EB.ext Od4.2)
    obtain ⟨_, _, ⟨T11, Lq11, kq_11, nq_11⟩, -, X11, ⟨Lc11, hQ11, lq11, yq11, zq11⟩, st11⟩ := X10.virtualBack hx (y := (⟨"com/example/amphisbaena/amphisbaena/format/Direction", "writer", "(Ljava/lang/Object;Ljava/lang/Object;)Ljava/lang/Object;"⟩ : MethodName)) (z := (⟨"com/example/amphisbaena/amphisbaena/format/Direction", "writer", "(Ljava/lang/Object;Ljava/lang/Object;)Ljava/lang/Object;"⟩ : MethodName)) hown (mvT hZ (hw _ (List.mem_of_getElem? (i := 10) rfl))) (mvT hZ (hw _ (List.mem_of_getElem? (i := 11) rfl))) (notFace_of_selects (args := #[]) (mvT hZ (hw _ (List.mem_of_getElem? (i := 13) rfl)))) (mvT hZ (hw _ (List.mem_of_getElem? (i := 13) rfl))) (mvT hZ (hw _ (List.mem_of_getElem? (i := 12) rfl))) (by decide) (backOf (W := 0) (rmwB l Z a0 hw [] aB r_34 r_28  T4.heap n0 ZS4 (SB.ext Od4.2)) hZ (hw _ (List.mem_of_getElem? (i := 14) rfl)) (hw _ (List.mem_of_getElem? (i := 1) rfl)) (by decide) (by decide)) q11a q11c (g := (mkF m 73 #[.val (.int p0), .val (.int p1), .val (.int p2), .val (.int fw), .val (.ref aB), .val (.ref r_28), .val (.ref r_34), .val (.ref r_28), .val (.ref r_34), .unset, .unset, .unset, .unset, .unset, .unset] [(.ref r_28), (.ref r_34), (.ref aB)])) rfl (by rw [hml]; rfl) (Steps.refl _) (argsL := [(.ref r_34), (.ref r_28)]) (rest := []) (lenOf pd0_1 rfl) rfl (by show 2 * 0 + _ ≤ _; exact Nat.le_of_eq rfl) (hb hby at_73) (fun _ _ => ⟨rfl, e10, (by decide : 2 + 0 ≤ _), (by decide : 2 + 0 ≤ _)⟩)
    dsimp only [Pt.U, Pt.locs, Pt.cells, Pt.slots] at X11 lq11 yq11 zq11 st11 hQ11
    subst lq11 yq11 zq11
    obtain ⟨rfl, Nq11, e11⟩ := hQ11
    have N11 := Fr.app N9 Nq11
    refine OGo.steps st11 ?_
    show OGo p e below _ (T11.setTop (mkF m 76 #[.val (.int p0), .val (.int p1), .val (.int p2), .val (.int fw), .val (.ref aB), .val (.ref r_28), .val (.ref r_34), .val (.ref r_28), .val (.ref r_34), .unset, .unset, .unset, .unset, .unset, .unset] [(.ref r_34)]))
    obtain ⟨T12, X12, e12, st12⟩ := castY X11 hx hZ hown (hw _ (List.mem_of_getElem? (i := 16) rfl)) e11 (Ins.self Er4) (g := (mkF m 76 #[.val (.int p0), .val (.int p1), .val (.int p2), .val (.int fw), .val (.ref aB), .val (.ref r_28), .val (.ref r_34), .val (.ref r_28), .val (.ref r_34), .unset, .unset, .unset, .unset, .unset, .unset] [(.ref r_34)])) rfl rfl (hb hby at_76)
    refine OGo.step (fun uK kK => st12 uK kK) ?_
    show OGo p e below _ (T12.setTop (mkF m 79 #[.val (.int p0), .val (.int p1), .val (.int p2), .val (.int fw), .val (.ref aB), .val (.ref r_28), .val (.ref r_34), .val (.ref r_28), .val (.ref r_34), .unset, .unset, .unset, .unset, .unset, .unset] [(.ref r_34)]))
    refine OGo.step (fun uK kK => XS.astore X12.here hx rfl (hb hby at_79) rfl rfl (l' := #[.val (.int p0), .val (.int p1), .val (.int p2), .val (.int fw), .val (.ref aB), .val (.ref r_28), .val (.ref r_34), .val (.ref r_28), .val (.ref r_34), .val (.ref r_34), .unset, .unset, .unset, .unset, .unset]) rfl kK) ?_
    show OGo p e below _ (T12.setTop (mkF m 81 #[.val (.int p0), .val (.int p1), .val (.int p2), .val (.int fw), .val (.ref aB), .val (.ref r_28), .val (.ref r_34), .val (.ref r_28), .val (.ref r_34), .val (.ref r_34), .unset, .unset, .unset, .unset, .unset] []))
    refine OGo.step (fun uK kK => XS.aload X12.here hx rfl (hb hby at_81) rfl rfl kK) ?_
    show OGo p e below _ (T12.setTop (mkF m 83 #[.val (.int p0), .val (.int p1), .val (.int p2), .val (.int fw), .val (.ref aB), .val (.ref r_28), .val (.ref r_34), .val (.ref r_28), .val (.ref r_34), .val (.ref r_34), .unset, .unset, .unset, .unset, .unset] [(.ref r_28)]))
    obtain ⟨cq13, kq13, q13a, q13b, q13c⟩ := isOf hZ e12 Er3_5
    obtain ⟨_, _, ⟨T13, Lq13, kq_13, nq_13⟩, -, X13, ⟨Lc13, hQ13, lq13, yq13, zq13⟩, st13⟩ := X12.virtualBack hx (y := (⟨"java/lang/Integer", "intValue", "()I"⟩ : MethodName)) (z := (⟨"java/lang/Integer", "intValue", "()I"⟩ : MethodName)) hown (mvT hZ (hw _ (List.mem_of_getElem? (i := 23) rfl))) (mvT hZ (hw _ (List.mem_of_getElem? (i := 24) rfl))) (notFace_of_selects (args := #[]) (mvT hZ (hw _ (List.mem_of_getElem? (i := 26) rfl)))) (mvT hZ (hw _ (List.mem_of_getElem? (i := 26) rfl))) (mvT hZ (hw _ (List.mem_of_getElem? (i := 25) rfl))) (by decide) (backOf (W := 0) (rmiv l Z a0 hw [] r_28 p1 T4.heap n0 ZS4 Fv3_6) hZ (hw _ (List.mem_of_getElem? (i := 27) rfl)) (hw _ (List.mem_of_getElem? (i := 5) rfl)) (by decide) (by decide)) q13a q13c (g := (mkF m 83 #[.val (.int p0), .val (.int p1), .val (.int p2), .val (.int fw), .val (.ref aB), .val (.ref r_28), .val (.ref r_34), .val (.ref r_28), .val (.ref r_34), .val (.ref r_34), .unset, .unset, .unset, .unset, .unset] [(.ref r_28)])) rfl (by rw [hml]; rfl) (Steps.refl _) (argsL := []) (rest := []) (lenOf pd0_2 rfl) rfl (by show 2 * 0 + _ ≤ _; exact Nat.le_of_eq rfl) (hb hby at_83) (fun _ _ => ⟨rfl, e12, (by decide : 2 + 0 ≤ _), (by decide : 2 + 0 ≤ _)⟩)
    dsimp only [Pt.U, Pt.locs, Pt.cells, Pt.slots] at X13 lq13 yq13 zq13 st13 hQ13
    subst lq13 yq13 zq13
    obtain ⟨rfl, Nq13, e13⟩ := hQ13
    have N13 := Fr.app N11 Nq13
    refine OGo.steps st13 ?_
    show OGo p e below _ (T13.setTop (mkF m 86 #[.val (.int p0), .val (.int p1), .val (.int p2), .val (.int fw), .val (.ref aB), .val (.ref r_28), .val (.ref r_34), .val (.ref r_28), .val (.ref r_34), .val (.ref r_34), .unset, .unset, .unset, .unset, .unset] [(.int p1)]))
    refine OGo.step (fun uK kK => XS.istore X13.here hx rfl (hb hby at_86) rfl (l' := #[.val (.int p0), .val (.int p1), .val (.int p2), .val (.int fw), .val (.ref aB), .val (.ref r_28), .val (.ref r_34), .val (.ref r_28), .val (.ref r_34), .val (.ref r_34), .val (.int p1), .unset, .unset, .unset, .unset]) rfl kK) ?_
    show OGo p e below _ (T13.setTop (mkF m 88 #[.val (.int p0), .val (.int p1), .val (.int p2), .val (.int fw), .val (.ref aB), .val (.ref r_28), .val (.ref r_34), .val (.ref r_28), .val (.ref r_34), .val (.ref r_34), .val (.int p1), .unset, .unset, .unset, .unset] []))
    refine OGo.step (fun uK kK => XS.aload X13.here hx rfl (hb hby at_88) rfl rfl kK) ?_
    show OGo p e below _ (T13.setTop (mkF m 90 #[.val (.int p0), .val (.int p1), .val (.int p2), .val (.int fw), .val (.ref aB), .val (.ref r_28), .val (.ref r_34), .val (.ref r_28), .val (.ref r_34), .val (.ref r_34), .val (.int p1), .unset, .unset, .unset, .unset] [(.ref r_34)]))
    obtain ⟨cq14, kq14, q14a, q14b, q14c⟩ := isOf hZ e13 Er4
    obtain ⟨_, _, ⟨T14, Lq14, kq_14, nq_14⟩, -, X14, ⟨Lc14, hQ14, lq14, yq14, zq14⟩, st14⟩ := X13.virtualBack hx (y := (⟨"java/lang/Integer", "intValue", "()I"⟩ : MethodName)) (z := (⟨"java/lang/Integer", "intValue", "()I"⟩ : MethodName)) hown (mvT hZ (hw _ (List.mem_of_getElem? (i := 23) rfl))) (mvT hZ (hw _ (List.mem_of_getElem? (i := 24) rfl))) (notFace_of_selects (args := #[]) (mvT hZ (hw _ (List.mem_of_getElem? (i := 26) rfl)))) (mvT hZ (hw _ (List.mem_of_getElem? (i := 26) rfl))) (mvT hZ (hw _ (List.mem_of_getElem? (i := 25) rfl))) (by decide) (backOf (W := 0) (rmiv l Z a0 hw [] r_34 p2 T4.heap n0 ZS4 Fv4) hZ (hw _ (List.mem_of_getElem? (i := 27) rfl)) (hw _ (List.mem_of_getElem? (i := 5) rfl)) (by decide) (by decide)) q14a q14c (g := (mkF m 90 #[.val (.int p0), .val (.int p1), .val (.int p2), .val (.int fw), .val (.ref aB), .val (.ref r_28), .val (.ref r_34), .val (.ref r_28), .val (.ref r_34), .val (.ref r_34), .val (.int p1), .unset, .unset, .unset, .unset] [(.ref r_34)])) rfl (by rw [hml]; rfl) (Steps.refl _) (argsL := []) (rest := []) (lenOf pd0_2 rfl) rfl (by show 2 * 0 + _ ≤ _; exact Nat.le_of_eq rfl) (hb hby at_90) (fun _ _ => ⟨rfl, e13, (by decide : 2 + 0 ≤ _), (by decide : 2 + 0 ≤ _)⟩)
    dsimp only [Pt.U, Pt.locs, Pt.cells, Pt.slots] at X14 lq14 yq14 zq14 st14 hQ14
    subst lq14 yq14 zq14
    obtain ⟨rfl, Nq14, e14⟩ := hQ14
    have N14 := Fr.app N13 Nq14
    refine OGo.steps st14 ?_
    show OGo p e below _ (T14.setTop (mkF m 93 #[.val (.int p0), .val (.int p1), .val (.int p2), .val (.int fw), .val (.ref aB), .val (.ref r_28), .val (.ref r_34), .val (.ref r_28), .val (.ref r_34), .val (.ref r_34), .val (.int p1), .unset, .unset, .unset, .unset] [(.int p2)]))
    refine OGo.step (fun uK kK => XS.istore X14.here hx rfl (hb hby at_93) rfl (l' := #[.val (.int p0), .val (.int p1), .val (.int p2), .val (.int fw), .val (.ref aB), .val (.ref r_28), .val (.ref r_34), .val (.ref r_28), .val (.ref r_34), .val (.ref r_34), .val (.int p1), .val (.int p2), .unset, .unset, .unset]) rfl kK) ?_
    show OGo p e below _ (T14.setTop (mkF m 95 #[.val (.int p0), .val (.int p1), .val (.int p2), .val (.int fw), .val (.ref aB), .val (.ref r_28), .val (.ref r_34), .val (.ref r_28), .val (.ref r_34), .val (.ref r_34), .val (.int p1), .val (.int p2), .unset, .unset, .unset] []))
    refine OGo.step (fun uK kK => XS.iloadN X14.here hx rfl (hb hby at_95) rfl kK) ?_
    show OGo p e below _ (T14.setTop (mkF m 96 #[.val (.int p0), .val (.int p1), .val (.int p2), .val (.int fw), .val (.ref aB), .val (.ref r_28), .val (.ref r_34), .val (.ref r_28), .val (.ref r_34), .val (.ref r_34), .val (.int p1), .val (.int p2), .unset, .unset, .unset] [(.int fw)]))
    refine OGo.step (fun uK kK => XS.ifYes X14.here hx rfl (pc0 := 96) (pc' := 113) rfl (hb hby at_96) rfl ((if0 _ _).trans (teq hc13).1) (by decide) (by decide) kK) ?_
    show OGo p e below _ (T14.setTop (mkF m 113 #[.val (.int p0), .val (.int p1), .val (.int p2), .val (.int fw), .val (.ref aB), .val (.ref r_28), .val (.ref r_34), .val (.ref r_28), .val (.ref r_34), .val (.ref r_34), .val (.int p1), .val (.int p2), .unset, .unset, .unset] []))
    refine OGo.step (fun uK kK => XS.iload X14.here hx rfl (hb hby at_113) rfl kK) ?_
    show OGo p e below _ (T14.setTop (mkF m 115 #[.val (.int p0), .val (.int p1), .val (.int p2), .val (.int fw), .val (.ref aB), .val (.ref r_28), .val (.ref r_34), .val (.ref r_28), .val (.ref r_34), .val (.ref r_34), .val (.int p1), .val (.int p2), .unset, .unset, .unset] [(.int p1)]))
    refine OGo.step (fun uK kK => XS.iloadN X14.here hx rfl (hb hby at_115) rfl kK) ?_
    show OGo p e below _ (T14.setTop (mkF m 116 #[.val (.int p0), .val (.int p1), .val (.int p2), .val (.int fw), .val (.ref aB), .val (.ref r_28), .val (.ref r_34), .val (.ref r_28), .val (.ref r_34), .val (.ref r_34), .val (.int p1), .val (.int p2), .unset, .unset, .unset] [(.int p1), (.int p1)]))
    have hc116 : p1 = p1 := rfl
    refine OGo.step (fun uK kK => XS.icmpNo X14.here hx rfl (hb hby at_116) rfl (teq hc116).2 kK) ?_
    show OGo p e below _ (T14.setTop (mkF m 119 #[.val (.int p0), .val (.int p1), .val (.int p2), .val (.int fw), .val (.ref aB), .val (.ref r_28), .val (.ref r_34), .val (.ref r_28), .val (.ref r_34), .val (.ref r_34), .val (.int p1), .val (.int p2), .unset, .unset, .unset] []))
    refine OGo.step (fun uK kK => XS.iconst X14.here hx rfl (hb hby at_119) kK) ?_
    show OGo p e below _ (T14.setTop (mkF m 120 #[.val (.int p0), .val (.int p1), .val (.int p2), .val (.int fw), .val (.ref aB), .val (.ref r_28), .val (.ref r_34), .val (.ref r_28), .val (.ref r_34), .val (.ref r_34), .val (.int p1), .val (.int p2), .unset, .unset, .unset] [(.int (1 : Int32))]))
    refine OGo.step (fun uK kK => XS.goto X14.here hx rfl (pc0 := 120) (pc' := 124) rfl (hb hby at_120) (by decide) (by decide) kK) ?_
    show OGo p e below _ (T14.setTop (mkF m 124 #[.val (.int p0), .val (.int p1), .val (.int p2), .val (.int fw), .val (.ref aB), .val (.ref r_28), .val (.ref r_34), .val (.ref r_28), .val (.ref r_34), .val (.ref r_34), .val (.int p1), .val (.int p2), .unset, .unset, .unset] [(.int (1 : Int32))]))
    refine OGo.step (fun uK kK => XS.istore X14.here hx rfl (hb hby at_124) rfl (l' := #[.val (.int p0), .val (.int p1), .val (.int p2), .val (.int fw), .val (.ref aB), .val (.ref r_28), .val (.ref r_34), .val (.ref r_28), .val (.ref r_34), .val (.ref r_34), .val (.int p1), .val (.int p2), .val (.int (1 : Int32)), .unset, .unset]) rfl kK) ?_
    show OGo p e below _ (T14.setTop (mkF m 126 #[.val (.int p0), .val (.int p1), .val (.int p2), .val (.int fw), .val (.ref aB), .val (.ref r_28), .val (.ref r_34), .val (.ref r_28), .val (.ref r_34), .val (.ref r_34), .val (.int p1), .val (.int p2), .val (.int (1 : Int32)), .unset, .unset] []))
    refine OGo.step (fun uK kK => XS.aload X14.here hx rfl (hb hby at_126) rfl rfl kK) ?_
    show OGo p e below _ (T14.setTop (mkF m 128 #[.val (.int p0), .val (.int p1), .val (.int p2), .val (.int fw), .val (.ref aB), .val (.ref r_28), .val (.ref r_34), .val (.ref r_28), .val (.ref r_34), .val (.ref r_34), .val (.int p1), .val (.int p2), .val (.int (1 : Int32)), .unset, .unset] [(.ref r_34)]))
    obtain ⟨cq15, kq15, q15a, q15b, q15c⟩ := isOf hZ e14 Er4
    obtain ⟨_, _, ⟨T15, Lq15, kq_15, nq_15⟩, -, X15, ⟨Lc15, hQ15, lq15, yq15, zq15⟩, st15⟩ := X14.virtualBack hx (y := (⟨"java/lang/Integer", "intValue", "()I"⟩ : MethodName)) (z := (⟨"java/lang/Integer", "intValue", "()I"⟩ : MethodName)) hown (mvT hZ (hw _ (List.mem_of_getElem? (i := 23) rfl))) (mvT hZ (hw _ (List.mem_of_getElem? (i := 24) rfl))) (notFace_of_selects (args := #[]) (mvT hZ (hw _ (List.mem_of_getElem? (i := 26) rfl)))) (mvT hZ (hw _ (List.mem_of_getElem? (i := 26) rfl))) (mvT hZ (hw _ (List.mem_of_getElem? (i := 25) rfl))) (by decide) (backOf (W := 0) (rmiv l Z a0 hw [] r_34 p2 T4.heap n0 ZS4 Fv4) hZ (hw _ (List.mem_of_getElem? (i := 27) rfl)) (hw _ (List.mem_of_getElem? (i := 5) rfl)) (by decide) (by decide)) q15a q15c (g := (mkF m 128 #[.val (.int p0), .val (.int p1), .val (.int p2), .val (.int fw), .val (.ref aB), .val (.ref r_28), .val (.ref r_34), .val (.ref r_28), .val (.ref r_34), .val (.ref r_34), .val (.int p1), .val (.int p2), .val (.int (1 : Int32)), .unset, .unset] [(.ref r_34)])) rfl (by rw [hml]; rfl) (Steps.refl _) (argsL := []) (rest := []) (lenOf pd0_2 rfl) rfl (by show 2 * 0 + _ ≤ _; exact Nat.le_of_eq rfl) (hb hby at_128) (fun _ _ => ⟨rfl, e14, (by decide : 2 + 0 ≤ _), (by decide : 2 + 0 ≤ _)⟩)
    dsimp only [Pt.U, Pt.locs, Pt.cells, Pt.slots] at X15 lq15 yq15 zq15 st15 hQ15
    subst lq15 yq15 zq15
    obtain ⟨rfl, Nq15, e15⟩ := hQ15
    have N15 := Fr.app N14 Nq15
    refine OGo.steps st15 ?_
    show OGo p e below _ (T15.setTop (mkF m 131 #[.val (.int p0), .val (.int p1), .val (.int p2), .val (.int fw), .val (.ref aB), .val (.ref r_28), .val (.ref r_34), .val (.ref r_28), .val (.ref r_34), .val (.ref r_34), .val (.int p1), .val (.int p2), .val (.int (1 : Int32)), .unset, .unset] [(.int p2)]))
    refine OGo.step (fun uK kK => XS.iload X15.here hx rfl (hb hby at_131) rfl kK) ?_
    show OGo p e below _ (T15.setTop (mkF m 133 #[.val (.int p0), .val (.int p1), .val (.int p2), .val (.int fw), .val (.ref aB), .val (.ref r_28), .val (.ref r_34), .val (.ref r_28), .val (.ref r_34), .val (.ref r_34), .val (.int p1), .val (.int p2), .val (.int (1 : Int32)), .unset, .unset] [(.int p2), (.int p2)]))
    have hc133 : p2 = p2 := rfl
    refine OGo.step (fun uK kK => XS.icmpNo X15.here hx rfl (hb hby at_133) rfl (teq hc133).2 kK) ?_
    show OGo p e below _ (T15.setTop (mkF m 136 #[.val (.int p0), .val (.int p1), .val (.int p2), .val (.int fw), .val (.ref aB), .val (.ref r_28), .val (.ref r_34), .val (.ref r_28), .val (.ref r_34), .val (.ref r_34), .val (.int p1), .val (.int p2), .val (.int (1 : Int32)), .unset, .unset] []))
    refine OGo.step (fun uK kK => XS.iconst X15.here hx rfl (hb hby at_136) kK) ?_
    show OGo p e below _ (T15.setTop (mkF m 137 #[.val (.int p0), .val (.int p1), .val (.int p2), .val (.int fw), .val (.ref aB), .val (.ref r_28), .val (.ref r_34), .val (.ref r_28), .val (.ref r_34), .val (.ref r_34), .val (.int p1), .val (.int p2), .val (.int (1 : Int32)), .unset, .unset] [(.int (1 : Int32))]))
    refine OGo.step (fun uK kK => XS.goto X15.here hx rfl (pc0 := 137) (pc' := 141) rfl (hb hby at_137) (by decide) (by decide) kK) ?_
    show OGo p e below _ (T15.setTop (mkF m 141 #[.val (.int p0), .val (.int p1), .val (.int p2), .val (.int fw), .val (.ref aB), .val (.ref r_28), .val (.ref r_34), .val (.ref r_28), .val (.ref r_34), .val (.ref r_34), .val (.int p1), .val (.int p2), .val (.int (1 : Int32)), .unset, .unset] [(.int (1 : Int32))]))
    refine OGo.step (fun uK kK => XS.istore X15.here hx rfl (hb hby at_141) rfl (l' := #[.val (.int p0), .val (.int p1), .val (.int p2), .val (.int fw), .val (.ref aB), .val (.ref r_28), .val (.ref r_34), .val (.ref r_28), .val (.ref r_34), .val (.ref r_34), .val (.int p1), .val (.int p2), .val (.int (1 : Int32)), .val (.int (1 : Int32)), .unset]) rfl kK) ?_
    show OGo p e below _ (T15.setTop (mkF m 143 #[.val (.int p0), .val (.int p1), .val (.int p2), .val (.int fw), .val (.ref aB), .val (.ref r_28), .val (.ref r_34), .val (.ref r_28), .val (.ref r_34), .val (.ref r_34), .val (.int p1), .val (.int p2), .val (.int (1 : Int32)), .val (.int (1 : Int32)), .unset] []))
    refine OGo.step (fun uK kK => XS.iload X15.here hx rfl (hb hby at_143) rfl kK) ?_
    show OGo p e below _ (T15.setTop (mkF m 145 #[.val (.int p0), .val (.int p1), .val (.int p2), .val (.int fw), .val (.ref aB), .val (.ref r_28), .val (.ref r_34), .val (.ref r_28), .val (.ref r_34), .val (.ref r_34), .val (.int p1), .val (.int p2), .val (.int (1 : Int32)), .val (.int (1 : Int32)), .unset] [(.int p1)]))
    refine OGo.step (fun uK kK => XS.i2l X15.here hx rfl (hb hby at_145) rfl kK) ?_
    show OGo p e below _ (T15.setTop (mkF m 146 #[.val (.int p0), .val (.int p1), .val (.int p2), .val (.int fw), .val (.ref aB), .val (.ref r_28), .val (.ref r_34), .val (.ref r_28), .val (.ref r_34), .val (.ref r_34), .val (.int p1), .val (.int p2), .val (.int (1 : Int32)), .val (.int (1 : Int32)), .unset] [(.long (p1.toInt64))]))
    refine OGo.step (fun uK kK => XS.iload X15.here hx rfl (hb hby at_146) rfl kK) ?_
    show OGo p e below _ (T15.setTop (mkF m 148 #[.val (.int p0), .val (.int p1), .val (.int p2), .val (.int fw), .val (.ref aB), .val (.ref r_28), .val (.ref r_34), .val (.ref r_28), .val (.ref r_34), .val (.ref r_34), .val (.int p1), .val (.int p2), .val (.int (1 : Int32)), .val (.int (1 : Int32)), .unset] [(.int p2), (.long (p1.toInt64))]))
    refine OGo.step (fun uK kK => XS.i2l X15.here hx rfl (hb hby at_148) rfl kK) ?_
    show OGo p e below _ (T15.setTop (mkF m 149 #[.val (.int p0), .val (.int p1), .val (.int p2), .val (.int fw), .val (.ref aB), .val (.ref r_28), .val (.ref r_34), .val (.ref r_28), .val (.ref r_34), .val (.ref r_34), .val (.int p1), .val (.int p2), .val (.int (1 : Int32)), .val (.int (1 : Int32)), .unset] [(.long (p2.toInt64)), (.long (p1.toInt64))]))
    refine OGo.step (fun uK kK => XS.ladd X15.here hx rfl (hb hby at_149) rfl kK) ?_
    show OGo p e below _ (T15.setTop (mkF m 150 #[.val (.int p0), .val (.int p1), .val (.int p2), .val (.int fw), .val (.ref aB), .val (.ref r_28), .val (.ref r_34), .val (.ref r_28), .val (.ref r_34), .val (.ref r_34), .val (.int p1), .val (.int p2), .val (.int (1 : Int32)), .val (.int (1 : Int32)), .unset] [(.long ((p1.toInt64) + (p2.toInt64)))]))
    refine OGo.step (fun uK kK => XS.iloadN X15.here hx rfl (hb hby at_150) rfl kK) ?_
    show OGo p e below _ (T15.setTop (mkF m 151 #[.val (.int p0), .val (.int p1), .val (.int p2), .val (.int fw), .val (.ref aB), .val (.ref r_28), .val (.ref r_34), .val (.ref r_28), .val (.ref r_34), .val (.ref r_34), .val (.int p1), .val (.int p2), .val (.int (1 : Int32)), .val (.int (1 : Int32)), .unset] [(.int p1), (.long ((p1.toInt64) + (p2.toInt64)))]))
    refine OGo.step (fun uK kK => XS.i2l X15.here hx rfl (hb hby at_151) rfl kK) ?_
    show OGo p e below _ (T15.setTop (mkF m 152 #[.val (.int p0), .val (.int p1), .val (.int p2), .val (.int fw), .val (.ref aB), .val (.ref r_28), .val (.ref r_34), .val (.ref r_28), .val (.ref r_34), .val (.ref r_34), .val (.int p1), .val (.int p2), .val (.int (1 : Int32)), .val (.int (1 : Int32)), .unset] [(.long (p1.toInt64)), (.long ((p1.toInt64) + (p2.toInt64)))]))
    refine OGo.step (fun uK kK => XS.iloadN X15.here hx rfl (hb hby at_152) rfl kK) ?_
    show OGo p e below _ (T15.setTop (mkF m 153 #[.val (.int p0), .val (.int p1), .val (.int p2), .val (.int fw), .val (.ref aB), .val (.ref r_28), .val (.ref r_34), .val (.ref r_28), .val (.ref r_34), .val (.ref r_34), .val (.int p1), .val (.int p2), .val (.int (1 : Int32)), .val (.int (1 : Int32)), .unset] [(.int p2), (.long (p1.toInt64)), (.long ((p1.toInt64) + (p2.toInt64)))]))
    refine OGo.step (fun uK kK => XS.i2l X15.here hx rfl (hb hby at_153) rfl kK) ?_
    show OGo p e below _ (T15.setTop (mkF m 154 #[.val (.int p0), .val (.int p1), .val (.int p2), .val (.int fw), .val (.ref aB), .val (.ref r_28), .val (.ref r_34), .val (.ref r_28), .val (.ref r_34), .val (.ref r_34), .val (.int p1), .val (.int p2), .val (.int (1 : Int32)), .val (.int (1 : Int32)), .unset] [(.long (p2.toInt64)), (.long (p1.toInt64)), (.long ((p1.toInt64) + (p2.toInt64)))]))
    refine OGo.step (fun uK kK => XS.ladd X15.here hx rfl (hb hby at_154) rfl kK) ?_
    show OGo p e below _ (T15.setTop (mkF m 155 #[.val (.int p0), .val (.int p1), .val (.int p2), .val (.int fw), .val (.ref aB), .val (.ref r_28), .val (.ref r_34), .val (.ref r_28), .val (.ref r_34), .val (.ref r_34), .val (.int p1), .val (.int p2), .val (.int (1 : Int32)), .val (.int (1 : Int32)), .unset] [(.long ((p1.toInt64) + (p2.toInt64))), (.long ((p1.toInt64) + (p2.toInt64)))]))
    refine OGo.step (fun uK kK => XS.lcmp X15.here hx rfl (hb hby at_155) rfl kK) ?_
    show OGo p e below _ (T15.setTop (mkF m 156 #[.val (.int p0), .val (.int p1), .val (.int p2), .val (.int fw), .val (.ref aB), .val (.ref r_28), .val (.ref r_34), .val (.ref r_28), .val (.ref r_34), .val (.ref r_34), .val (.int p1), .val (.int p2), .val (.int (1 : Int32)), .val (.int (1 : Int32)), .unset] [(.int (lcmpW ((p1.toInt64) + (p2.toInt64)) ((p1.toInt64) + (p2.toInt64))))]))
    have hc156 : ((p1.toInt64) + (p2.toInt64)) = ((p1.toInt64) + (p2.toInt64)) := rfl
    refine OGo.step (fun uK kK => XS.ifNo X15.here hx rfl (hb hby at_156) rfl ((if0 _ _).trans (teq ((lw_eq _ _).mpr hc156)).2) kK) ?_
    show OGo p e below _ (T15.setTop (mkF m 159 #[.val (.int p0), .val (.int p1), .val (.int p2), .val (.int fw), .val (.ref aB), .val (.ref r_28), .val (.ref r_34), .val (.ref r_28), .val (.ref r_34), .val (.ref r_34), .val (.int p1), .val (.int p2), .val (.int (1 : Int32)), .val (.int (1 : Int32)), .unset] []))
    refine OGo.step (fun uK kK => XS.iconst X15.here hx rfl (hb hby at_159) kK) ?_
    show OGo p e below _ (T15.setTop (mkF m 160 #[.val (.int p0), .val (.int p1), .val (.int p2), .val (.int fw), .val (.ref aB), .val (.ref r_28), .val (.ref r_34), .val (.ref r_28), .val (.ref r_34), .val (.ref r_34), .val (.int p1), .val (.int p2), .val (.int (1 : Int32)), .val (.int (1 : Int32)), .unset] [(.int (1 : Int32))]))
    refine OGo.step (fun uK kK => XS.goto X15.here hx rfl (pc0 := 160) (pc' := 164) rfl (hb hby at_160) (by decide) (by decide) kK) ?_
    show OGo p e below _ (T15.setTop (mkF m 164 #[.val (.int p0), .val (.int p1), .val (.int p2), .val (.int fw), .val (.ref aB), .val (.ref r_28), .val (.ref r_34), .val (.ref r_28), .val (.ref r_34), .val (.ref r_34), .val (.int p1), .val (.int p2), .val (.int (1 : Int32)), .val (.int (1 : Int32)), .unset] [(.int (1 : Int32))]))
    refine OGo.step (fun uK kK => XS.istore X15.here hx rfl (hb hby at_164) rfl (l' := #[.val (.int p0), .val (.int p1), .val (.int p2), .val (.int fw), .val (.ref aB), .val (.ref r_28), .val (.ref r_34), .val (.ref r_28), .val (.ref r_34), .val (.ref r_34), .val (.int p1), .val (.int p2), .val (.int (1 : Int32)), .val (.int (1 : Int32)), .val (.int (1 : Int32))]) rfl kK) ?_
    show OGo p e below _ (T15.setTop (mkF m 166 #[.val (.int p0), .val (.int p1), .val (.int p2), .val (.int fw), .val (.ref aB), .val (.ref r_28), .val (.ref r_34), .val (.ref r_28), .val (.ref r_34), .val (.ref r_34), .val (.int p1), .val (.int p2), .val (.int (1 : Int32)), .val (.int (1 : Int32)), .val (.int (1 : Int32))] []))
    refine OGo.step (fun uK kK => XS.iload X15.here hx rfl (hb hby at_166) rfl kK) ?_
    show OGo p e below _ (T15.setTop (mkF m 168 #[.val (.int p0), .val (.int p1), .val (.int p2), .val (.int fw), .val (.ref aB), .val (.ref r_28), .val (.ref r_34), .val (.ref r_28), .val (.ref r_34), .val (.ref r_34), .val (.int p1), .val (.int p2), .val (.int (1 : Int32)), .val (.int (1 : Int32)), .val (.int (1 : Int32))] [(.int (1 : Int32))]))
    have hc168 : ¬ ((1 : Int32) = (0 : Int32)) := by decide
    refine OGo.step (fun uK kK => XS.ifNo X15.here hx rfl (hb hby at_168) rfl ((if0 _ _).trans (feq hc168).1) kK) ?_
    show OGo p e below _ (T15.setTop (mkF m 171 #[.val (.int p0), .val (.int p1), .val (.int p2), .val (.int fw), .val (.ref aB), .val (.ref r_28), .val (.ref r_34), .val (.ref r_28), .val (.ref r_34), .val (.ref r_34), .val (.int p1), .val (.int p2), .val (.int (1 : Int32)), .val (.int (1 : Int32)), .val (.int (1 : Int32))] []))
    refine OGo.step (fun uK kK => XS.iload X15.here hx rfl (hb hby at_171) rfl kK) ?_
    show OGo p e below _ (T15.setTop (mkF m 173 #[.val (.int p0), .val (.int p1), .val (.int p2), .val (.int fw), .val (.ref aB), .val (.ref r_28), .val (.ref r_34), .val (.ref r_28), .val (.ref r_34), .val (.ref r_34), .val (.int p1), .val (.int p2), .val (.int (1 : Int32)), .val (.int (1 : Int32)), .val (.int (1 : Int32))] [(.int (1 : Int32))]))
    have hc173 : ¬ ((1 : Int32) = (0 : Int32)) := by decide
    refine OGo.step (fun uK kK => XS.ifNo X15.here hx rfl (hb hby at_173) rfl ((if0 _ _).trans (feq hc173).1) kK) ?_
    show OGo p e below _ (T15.setTop (mkF m 176 #[.val (.int p0), .val (.int p1), .val (.int p2), .val (.int fw), .val (.ref aB), .val (.ref r_28), .val (.ref r_34), .val (.ref r_28), .val (.ref r_34), .val (.ref r_34), .val (.int p1), .val (.int p2), .val (.int (1 : Int32)), .val (.int (1 : Int32)), .val (.int (1 : Int32))] []))
    refine OGo.step (fun uK kK => XS.iload X15.here hx rfl (hb hby at_176) rfl kK) ?_
    show OGo p e below _ (T15.setTop (mkF m 178 #[.val (.int p0), .val (.int p1), .val (.int p2), .val (.int fw), .val (.ref aB), .val (.ref r_28), .val (.ref r_34), .val (.ref r_28), .val (.ref r_34), .val (.ref r_34), .val (.int p1), .val (.int p2), .val (.int (1 : Int32)), .val (.int (1 : Int32)), .val (.int (1 : Int32))] [(.int (1 : Int32))]))
    have hc178 : ¬ ((1 : Int32) = (0 : Int32)) := by decide
    refine OGo.step (fun uK kK => XS.ifNo X15.here hx rfl (hb hby at_178) rfl ((if0 _ _).trans (feq hc178).1) kK) ?_
    show OGo p e below _ (T15.setTop (mkF m 181 #[.val (.int p0), .val (.int p1), .val (.int p2), .val (.int fw), .val (.ref aB), .val (.ref r_28), .val (.ref r_34), .val (.ref r_28), .val (.ref r_34), .val (.ref r_34), .val (.int p1), .val (.int p2), .val (.int (1 : Int32)), .val (.int (1 : Int32)), .val (.int (1 : Int32))] []))
    refine OGo.step (fun uK kK => XS.iconst X15.here hx rfl (hb hby at_181) kK) ?_
    show OGo p e below _ (T15.setTop (mkF m 182 #[.val (.int p0), .val (.int p1), .val (.int p2), .val (.int fw), .val (.ref aB), .val (.ref r_28), .val (.ref r_34), .val (.ref r_28), .val (.ref r_34), .val (.ref r_34), .val (.int p1), .val (.int p2), .val (.int (1 : Int32)), .val (.int (1 : Int32)), .val (.int (1 : Int32))] [(.int (1 : Int32))]))
    refine OGo.step (fun uK kK => XS.goto X15.here hx rfl (pc0 := 182) (pc' := 186) rfl (hb hby at_182) (by decide) (by decide) kK) ?_
    show OGo p e below _ (T15.setTop (mkF m 186 #[.val (.int p0), .val (.int p1), .val (.int p2), .val (.int fw), .val (.ref aB), .val (.ref r_28), .val (.ref r_34), .val (.ref r_28), .val (.ref r_34), .val (.ref r_34), .val (.int p1), .val (.int p2), .val (.int (1 : Int32)), .val (.int (1 : Int32)), .val (.int (1 : Int32))] [(.int (1 : Int32))]))
    exact OGo.retN X15 hx Bd.notSynchronized (t := .boolean) Bd.returns (by simp) (hb hby at_186) (by decide) (by decide) (by show Q0 Z p0 p1 p2 aK cK aB aF h0 n0 _ T15.heap _; rw [e15]; exact ⟨rfl, N15⟩)
  · skip
    refine OGo.step (fun uK kK => XS.ifNo X0.here hx rfl (hb hby at_13) rfl ((if0 _ _).trans (feq hc13).1) kK) ?_
    show OGo p e below _ (s₁.setTop (mkF m 16 #[.val (.int p0), .val (.int p1), .val (.int p2), .val (.int fw), .unset, .unset, .unset, .unset, .unset, .unset, .unset, .unset, .unset, .unset, .unset] []))
    obtain ⟨T16, X16, e16, st16⟩ := getS2 X0 hx hZ hown (host := "") (Or.inl (hw _ (List.mem_of_getElem? (i := 30) rfl))) Via.refl e0 (SF.ext Od.2) (g := (mkF m 16 #[.val (.int p0), .val (.int p1), .val (.int p2), .val (.int fw), .unset, .unset, .unset, .unset, .unset, .unset, .unset, .unset, .unset, .unset, .unset] [])) rfl (hb hby at_16)
    refine OGo.step (fun uK kK => st16 uK kK) ?_
    show OGo p e below _ (T16.setTop (mkF m 19 #[.val (.int p0), .val (.int p1), .val (.int p2), .val (.int fw), .unset, .unset, .unset, .unset, .unset, .unset, .unset, .unset, .unset, .unset, .unset] [(.ref aF)]))
    refine OGo.step (fun uK kK => XS.goto X16.here hx rfl (pc0 := 19) (pc' := 25) rfl (hb hby at_19) (by decide) (by decide) kK) ?_
    show OGo p e below _ (T16.setTop (mkF m 25 #[.val (.int p0), .val (.int p1), .val (.int p2), .val (.int fw), .unset, .unset, .unset, .unset, .unset, .unset, .unset, .unset, .unset, .unset, .unset] [(.ref aF)]))
    refine OGo.step (fun uK kK => XS.astore X16.here hx rfl (hb hby at_25) rfl rfl (l' := #[.val (.int p0), .val (.int p1), .val (.int p2), .val (.int fw), .val (.ref aF), .unset, .unset, .unset, .unset, .unset, .unset, .unset, .unset, .unset, .unset]) rfl kK) ?_
    show OGo p e below _ (T16.setTop (mkF m 27 #[.val (.int p0), .val (.int p1), .val (.int p2), .val (.int fw), .val (.ref aF), .unset, .unset, .unset, .unset, .unset, .unset, .unset, .unset, .unset, .unset] []))
    refine OGo.step (fun uK kK => XS.iloadN X16.here hx rfl (hb hby at_27) rfl kK) ?_
    show OGo p e below _ (T16.setTop (mkF m 28 #[.val (.int p0), .val (.int p1), .val (.int p2), .val (.int fw), .val (.ref aF), .unset, .unset, .unset, .unset, .unset, .unset, .unset, .unset, .unset, .unset] [(.int p1)]))
    obtain ⟨_, _, ⟨T17, Lq17, kq_17, nq_17⟩, -, X17, ⟨Lc17, hQ17, lq17, yq17, zq17⟩, st17⟩ := Jvm.LawKit.callS X16 hx (y := (⟨"java/lang/Integer", "valueOf", "(I)Ljava/lang/Integer;"⟩ : MethodName)) hown (mvT hZ (hw _ (List.mem_of_getElem? (i := 3) rfl))) (mvT hZ (hw _ (List.mem_of_getElem? (i := 4) rfl))) (mvT hZ (hw _ (List.mem_of_getElem? (i := 5) rfl))) (mvT hZ (hw _ (List.mem_of_getElem? (i := 6) rfl))) (by decide) (backOf (W := 0) (rmvo l Z a0 hw [] p1 aK cK h0 n0 Z0 SH SC ArK szK hall Od) hZ (hw _ (List.mem_of_getElem? (i := 6) rfl)) (hw _ (List.mem_of_getElem? (i := 5) rfl)) (by decide) (by decide)) (g := (mkF m 28 #[.val (.int p0), .val (.int p1), .val (.int p2), .val (.int fw), .val (.ref aF), .unset, .unset, .unset, .unset, .unset, .unset, .unset, .unset, .unset, .unset] [(.int p1)])) rfl (by rw [hml]; rfl) (argsL := [(.int p1)]) (rest := []) (lenOf pd0_0 rfl) rfl (by show 2 * 0 + _ ≤ _; exact Nat.le_of_eq rfl) (hb hby at_28) (fun _ _ => ⟨rfl, e16, (by decide : 0 + 1 ≤ _), (by decide : 0 + 1 ≤ _)⟩)
    dsimp only [Pt.U, Pt.locs, Pt.cells, Pt.slots] at X17 lq17 yq17 zq17 st17 hQ17
    subst lq17 yq17 zq17
    obtain ⟨r_28, rfl, Nq17, K17, Er17, Fv17⟩ := hQ17
    have ZS17 : n0 ≤ T17.heap.size := Nat.le_trans Z0 K17.1
    have KC17 : Keep h0 T17.heap [] := (Keep.refl h0 []).trans K17 all0
    have Od17 := Od.keep K17 all0
    have N17 := Fr.app N0 Nq17
    refine OGo.step (fun uK kK => st17 uK kK) ?_
    show OGo p e below _ (T17.setTop (mkF m 31 #[.val (.int p0), .val (.int p1), .val (.int p2), .val (.int fw), .val (.ref aF), .unset, .unset, .unset, .unset, .unset, .unset, .unset, .unset, .unset, .unset] [(.ref r_28)]))
    refine OGo.step (fun uK kK => XS.astore X17.here hx rfl (hb hby at_31) rfl rfl (l' := #[.val (.int p0), .val (.int p1), .val (.int p2), .val (.int fw), .val (.ref aF), .val (.ref r_28), .unset, .unset, .unset, .unset, .unset, .unset, .unset, .unset, .unset]) rfl kK) ?_
    show OGo p e below _ (T17.setTop (mkF m 33 #[.val (.int p0), .val (.int p1), .val (.int p2), .val (.int fw), .val (.ref aF), .val (.ref r_28), .unset, .unset, .unset, .unset, .unset, .unset, .unset, .unset, .unset] []))
    refine OGo.step (fun uK kK => XS.iloadN X17.here hx rfl (hb hby at_33) rfl kK) ?_
    show OGo p e below _ (T17.setTop (mkF m 34 #[.val (.int p0), .val (.int p1), .val (.int p2), .val (.int fw), .val (.ref aF), .val (.ref r_28), .unset, .unset, .unset, .unset, .unset, .unset, .unset, .unset, .unset] [(.int p2)]))
    obtain ⟨_, _, ⟨T18, Lq18, kq_18, nq_18⟩, -, X18, ⟨Lc18, hQ18, lq18, yq18, zq18⟩, st18⟩ := Jvm.LawKit.callS X17 hx (y := (⟨"java/lang/Integer", "valueOf", "(I)Ljava/lang/Integer;"⟩ : MethodName)) hown (mvT hZ (hw _ (List.mem_of_getElem? (i := 3) rfl))) (mvT hZ (hw _ (List.mem_of_getElem? (i := 4) rfl))) (mvT hZ (hw _ (List.mem_of_getElem? (i := 5) rfl))) (mvT hZ (hw _ (List.mem_of_getElem? (i := 6) rfl))) (by decide) (backOf (W := 0) (rmvo l Z a0 hw [] p2 aK cK T17.heap n0 ZS17 SH SC ArK szK hall Od17) hZ (hw _ (List.mem_of_getElem? (i := 6) rfl)) (hw _ (List.mem_of_getElem? (i := 5) rfl)) (by decide) (by decide)) (g := (mkF m 34 #[.val (.int p0), .val (.int p1), .val (.int p2), .val (.int fw), .val (.ref aF), .val (.ref r_28), .unset, .unset, .unset, .unset, .unset, .unset, .unset, .unset, .unset] [(.int p2)])) rfl (by rw [hml]; rfl) (argsL := [(.int p2)]) (rest := []) (lenOf pd0_0 rfl) rfl (by show 2 * 0 + _ ≤ _; exact Nat.le_of_eq rfl) (hb hby at_34) (fun _ _ => ⟨rfl, rfl, (by decide : 1 + 1 ≤ _), (by decide : 1 + 1 ≤ _)⟩)
    dsimp only [Pt.U, Pt.locs, Pt.cells, Pt.slots] at X18 lq18 yq18 zq18 st18 hQ18
    subst lq18 yq18 zq18
    obtain ⟨r_34, rfl, Nq18, K18, Er18, Fv18⟩ := hQ18
    have Er17_19 := (Er17.keep K18)
    have Fv17_20 := (Fv17.keep K18 nin0)
    have ZS18 : n0 ≤ T18.heap.size := Nat.le_trans ZS17 K18.1
    have KC18 : Keep h0 T18.heap [] := KC17.trans K18 all0
    have Od18 := Od17.keep K18 all0
    have N18 := Fr.app N17 Nq18
    refine OGo.step (fun uK kK => st18 uK kK) ?_
    show OGo p e below _ (T18.setTop (mkF m 37 #[.val (.int p0), .val (.int p1), .val (.int p2), .val (.int fw), .val (.ref aF), .val (.ref r_28), .unset, .unset, .unset, .unset, .unset, .unset, .unset, .unset, .unset] [(.ref r_34)]))
    refine OGo.step (fun uK kK => XS.astore X18.here hx rfl (hb hby at_37) rfl rfl (l' := #[.val (.int p0), .val (.int p1), .val (.int p2), .val (.int fw), .val (.ref aF), .val (.ref r_28), .val (.ref r_34), .unset, .unset, .unset, .unset, .unset, .unset, .unset, .unset]) rfl kK) ?_
    show OGo p e below _ (T18.setTop (mkF m 39 #[.val (.int p0), .val (.int p1), .val (.int p2), .val (.int fw), .val (.ref aF), .val (.ref r_28), .val (.ref r_34), .unset, .unset, .unset, .unset, .unset, .unset, .unset, .unset] []))
    refine OGo.step (fun uK kK => XS.aload X18.here hx rfl (hb hby at_39) rfl rfl kK) ?_
    show OGo p e below _ (T18.setTop (mkF m 41 #[.val (.int p0), .val (.int p1), .val (.int p2), .val (.int fw), .val (.ref aF), .val (.ref r_28), .val (.ref r_34), .unset, .unset, .unset, .unset, .unset, .unset, .unset, .unset] [(.ref aF)]))
    refine OGo.step (fun uK kK => XS.aload X18.here hx rfl (hb hby at_41) rfl rfl kK) ?_
    show OGo p e below _ (T18.setTop (mkF m 43 #[.val (.int p0), .val (.int p1), .val (.int p2), .val (.int fw), .val (.ref aF), .val (.ref r_28), .val (.ref r_34), .unset, .unset, .unset, .unset, .unset, .unset, .unset, .unset] [(.ref r_28), (.ref aF)]))
    refine OGo.step (fun uK kK => XS.aload X18.here hx rfl (hb hby at_43) rfl rfl kK) ?_
    show OGo p e below _ (T18.setTop (mkF m 45 #[.val (.int p0), .val (.int p1), .val (.int p2), .val (.int fw), .val (.ref aF), .val (.ref r_28), .val (.ref r_34), .unset, .unset, .unset, .unset, .unset, .unset, .unset, .unset] [(.ref r_34), (.ref r_28), (.ref aF)]))
    obtain ⟨cq21, kq21, q21a, q21b, q21c⟩ := isOf hZ rfl (EF.ext Od18.2)
    obtain ⟨_, _, ⟨T21, Lq21, kq_21, nq_21⟩, -, X21, ⟨Lc21, hQ21, lq21, yq21, zq21⟩, st21⟩ := X18.virtualBack hx (y := (⟨"com/example/amphisbaena/amphisbaena/format/Direction", "writer", "(Ljava/lang/Object;Ljava/lang/Object;)Ljava/lang/Object;"⟩ : MethodName)) (z := (⟨"com/example/amphisbaena/amphisbaena/format/Direction", "writer", "(Ljava/lang/Object;Ljava/lang/Object;)Ljava/lang/Object;"⟩ : MethodName)) hown (mvT hZ (hw _ (List.mem_of_getElem? (i := 10) rfl))) (mvT hZ (hw _ (List.mem_of_getElem? (i := 11) rfl))) (notFace_of_selects (args := #[]) (mvT hZ (hw _ (List.mem_of_getElem? (i := 13) rfl)))) (mvT hZ (hw _ (List.mem_of_getElem? (i := 13) rfl))) (mvT hZ (hw _ (List.mem_of_getElem? (i := 12) rfl))) (by decide) (backOf (W := 0) (rmwF l Z a0 hw [] aF r_28 r_34 aB T18.heap n0 ZS18 (SB.ext Od18.2) neF) hZ (hw _ (List.mem_of_getElem? (i := 14) rfl)) (hw _ (List.mem_of_getElem? (i := 1) rfl)) (by decide) (by decide)) q21a q21c (g := (mkF m 45 #[.val (.int p0), .val (.int p1), .val (.int p2), .val (.int fw), .val (.ref aF), .val (.ref r_28), .val (.ref r_34), .unset, .unset, .unset, .unset, .unset, .unset, .unset, .unset] [(.ref r_34), (.ref r_28), (.ref aF)])) rfl (by rw [hml]; rfl) (Steps.refl _) (argsL := [(.ref r_28), (.ref r_34)]) (rest := []) (lenOf pd0_1 rfl) rfl (by show 2 * 0 + _ ≤ _; exact Nat.le_of_eq rfl) (hb hby at_45) (fun _ _ => ⟨rfl, rfl, (by decide : 2 + 0 ≤ _), (by decide : 2 + 0 ≤ _)⟩)
    dsimp only [Pt.U, Pt.locs, Pt.cells, Pt.slots] at X21 lq21 yq21 zq21 st21 hQ21
    subst lq21 yq21 zq21
    obtain ⟨rfl, Nq21, e21⟩ := hQ21
    have N21 := Fr.app N18 Nq21
    refine OGo.steps st21 ?_
    show OGo p e below _ (T21.setTop (mkF m 48 #[.val (.int p0), .val (.int p1), .val (.int p2), .val (.int fw), .val (.ref aF), .val (.ref r_28), .val (.ref r_34), .unset, .unset, .unset, .unset, .unset, .unset, .unset, .unset] [(.ref r_34)]))
    obtain ⟨T22, X22, e22, st22⟩ := castY X21 hx hZ hown (hw _ (List.mem_of_getElem? (i := 16) rfl)) e21 (Ins.self Er18) (g := (mkF m 48 #[.val (.int p0), .val (.int p1), .val (.int p2), .val (.int fw), .val (.ref aF), .val (.ref r_28), .val (.ref r_34), .unset, .unset, .unset, .unset, .unset, .unset, .unset, .unset] [(.ref r_34)])) rfl rfl (hb hby at_48)
    refine OGo.step (fun uK kK => st22 uK kK) ?_
    show OGo p e below _ (T22.setTop (mkF m 51 #[.val (.int p0), .val (.int p1), .val (.int p2), .val (.int fw), .val (.ref aF), .val (.ref r_28), .val (.ref r_34), .unset, .unset, .unset, .unset, .unset, .unset, .unset, .unset] [(.ref r_34)]))
    refine OGo.step (fun uK kK => XS.astore X22.here hx rfl (hb hby at_51) rfl rfl (l' := #[.val (.int p0), .val (.int p1), .val (.int p2), .val (.int fw), .val (.ref aF), .val (.ref r_28), .val (.ref r_34), .val (.ref r_34), .unset, .unset, .unset, .unset, .unset, .unset, .unset]) rfl kK) ?_
    show OGo p e below _ (T22.setTop (mkF m 53 #[.val (.int p0), .val (.int p1), .val (.int p2), .val (.int fw), .val (.ref aF), .val (.ref r_28), .val (.ref r_34), .val (.ref r_34), .unset, .unset, .unset, .unset, .unset, .unset, .unset] []))
    refine OGo.step (fun uK kK => XS.aload X22.here hx rfl (hb hby at_53) rfl rfl kK) ?_
    show OGo p e below _ (T22.setTop (mkF m 55 #[.val (.int p0), .val (.int p1), .val (.int p2), .val (.int fw), .val (.ref aF), .val (.ref r_28), .val (.ref r_34), .val (.ref r_34), .unset, .unset, .unset, .unset, .unset, .unset, .unset] [(.ref aF)]))
    refine OGo.step (fun uK kK => XS.aload X22.here hx rfl (hb hby at_55) rfl rfl kK) ?_
    show OGo p e below _ (T22.setTop (mkF m 57 #[.val (.int p0), .val (.int p1), .val (.int p2), .val (.int fw), .val (.ref aF), .val (.ref r_28), .val (.ref r_34), .val (.ref r_34), .unset, .unset, .unset, .unset, .unset, .unset, .unset] [(.ref r_28), (.ref aF)]))
    refine OGo.step (fun uK kK => XS.aload X22.here hx rfl (hb hby at_57) rfl rfl kK) ?_
    show OGo p e below _ (T22.setTop (mkF m 59 #[.val (.int p0), .val (.int p1), .val (.int p2), .val (.int fw), .val (.ref aF), .val (.ref r_28), .val (.ref r_34), .val (.ref r_34), .unset, .unset, .unset, .unset, .unset, .unset, .unset] [(.ref r_34), (.ref r_28), (.ref aF)]))
    obtain ⟨cq23, kq23, q23a, q23b, q23c⟩ := isOf hZ e22 (EF.ext Od18.2)
    obtain ⟨_, _, ⟨T23, Lq23, kq_23, nq_23⟩, -, X23, ⟨Lc23, hQ23, lq23, yq23, zq23⟩, st23⟩ := X22.virtualBack hx (y := (⟨"com/example/amphisbaena/amphisbaena/format/Direction", "reader", "(Ljava/lang/Object;Ljava/lang/Object;)Ljava/lang/Object;"⟩ : MethodName)) (z := (⟨"com/example/amphisbaena/amphisbaena/format/Direction", "reader", "(Ljava/lang/Object;Ljava/lang/Object;)Ljava/lang/Object;"⟩ : MethodName)) hown (mvT hZ (hw _ (List.mem_of_getElem? (i := 18) rfl))) (mvT hZ (hw _ (List.mem_of_getElem? (i := 19) rfl))) (notFace_of_selects (args := #[]) (mvT hZ (hw _ (List.mem_of_getElem? (i := 21) rfl)))) (mvT hZ (hw _ (List.mem_of_getElem? (i := 21) rfl))) (mvT hZ (hw _ (List.mem_of_getElem? (i := 20) rfl))) (by decide) (backOf (W := 0) (rmrF l Z a0 hw [] aF r_28 r_34 aB T18.heap n0 ZS18 (SB.ext Od18.2) neF) hZ (hw _ (List.mem_of_getElem? (i := 22) rfl)) (hw _ (List.mem_of_getElem? (i := 1) rfl)) (by decide) (by decide)) q23a q23c (g := (mkF m 59 #[.val (.int p0), .val (.int p1), .val (.int p2), .val (.int fw), .val (.ref aF), .val (.ref r_28), .val (.ref r_34), .val (.ref r_34), .unset, .unset, .unset, .unset, .unset, .unset, .unset] [(.ref r_34), (.ref r_28), (.ref aF)])) rfl (by rw [hml]; rfl) (Steps.refl _) (argsL := [(.ref r_28), (.ref r_34)]) (rest := []) (lenOf pd0_1 rfl) rfl (by show 2 * 0 + _ ≤ _; exact Nat.le_of_eq rfl) (hb hby at_59) (fun _ _ => ⟨rfl, e22, (by decide : 2 + 0 ≤ _), (by decide : 2 + 0 ≤ _)⟩)
    dsimp only [Pt.U, Pt.locs, Pt.cells, Pt.slots] at X23 lq23 yq23 zq23 st23 hQ23
    subst lq23 yq23 zq23
    obtain ⟨rfl, Nq23, e23⟩ := hQ23
    have N23 := Fr.app N21 Nq23
    refine OGo.steps st23 ?_
    show OGo p e below _ (T23.setTop (mkF m 62 #[.val (.int p0), .val (.int p1), .val (.int p2), .val (.int fw), .val (.ref aF), .val (.ref r_28), .val (.ref r_34), .val (.ref r_34), .unset, .unset, .unset, .unset, .unset, .unset, .unset] [(.ref r_28)]))
    obtain ⟨T24, X24, e24, st24⟩ := castY X23 hx hZ hown (hw _ (List.mem_of_getElem? (i := 16) rfl)) e23 (Ins.self Er17_19) (g := (mkF m 62 #[.val (.int p0), .val (.int p1), .val (.int p2), .val (.int fw), .val (.ref aF), .val (.ref r_28), .val (.ref r_34), .val (.ref r_34), .unset, .unset, .unset, .unset, .unset, .unset, .unset] [(.ref r_28)])) rfl rfl (hb hby at_62)
    refine OGo.step (fun uK kK => st24 uK kK) ?_
    show OGo p e below _ (T24.setTop (mkF m 65 #[.val (.int p0), .val (.int p1), .val (.int p2), .val (.int fw), .val (.ref aF), .val (.ref r_28), .val (.ref r_34), .val (.ref r_34), .unset, .unset, .unset, .unset, .unset, .unset, .unset] [(.ref r_28)]))
    refine OGo.step (fun uK kK => XS.astore X24.here hx rfl (hb hby at_65) rfl rfl (l' := #[.val (.int p0), .val (.int p1), .val (.int p2), .val (.int fw), .val (.ref aF), .val (.ref r_28), .val (.ref r_34), .val (.ref r_34), .val (.ref r_28), .unset, .unset, .unset, .unset, .unset, .unset]) rfl kK) ?_
    show OGo p e below _ (T24.setTop (mkF m 67 #[.val (.int p0), .val (.int p1), .val (.int p2), .val (.int fw), .val (.ref aF), .val (.ref r_28), .val (.ref r_34), .val (.ref r_34), .val (.ref r_28), .unset, .unset, .unset, .unset, .unset, .unset] []))
    refine OGo.step (fun uK kK => XS.aload X24.here hx rfl (hb hby at_67) rfl rfl kK) ?_
    show OGo p e below _ (T24.setTop (mkF m 69 #[.val (.int p0), .val (.int p1), .val (.int p2), .val (.int fw), .val (.ref aF), .val (.ref r_28), .val (.ref r_34), .val (.ref r_34), .val (.ref r_28), .unset, .unset, .unset, .unset, .unset, .unset] [(.ref aF)]))
    refine OGo.step (fun uK kK => XS.aload X24.here hx rfl (hb hby at_69) rfl rfl kK) ?_
    show OGo p e below _ (T24.setTop (mkF m 71 #[.val (.int p0), .val (.int p1), .val (.int p2), .val (.int fw), .val (.ref aF), .val (.ref r_28), .val (.ref r_34), .val (.ref r_34), .val (.ref r_28), .unset, .unset, .unset, .unset, .unset, .unset] [(.ref r_34), (.ref aF)]))
    refine OGo.step (fun uK kK => XS.aload X24.here hx rfl (hb hby at_71) rfl rfl kK) ?_
    show OGo p e below _ (T24.setTop (mkF m 73 #[.val (.int p0), .val (.int p1), .val (.int p2), .val (.int fw), .val (.ref aF), .val (.ref r_28), .val (.ref r_34), .val (.ref r_34), .val (.ref r_28), .unset, .unset, .unset, .unset, .unset, .unset] [(.ref r_28), (.ref r_34), (.ref aF)]))
    obtain ⟨cq25, kq25, q25a, q25b, q25c⟩ := isOf hZ e24 (EF.ext Od18.2)
    obtain ⟨_, _, ⟨T25, Lq25, kq_25, nq_25⟩, -, X25, ⟨Lc25, hQ25, lq25, yq25, zq25⟩, st25⟩ := X24.virtualBack hx (y := (⟨"com/example/amphisbaena/amphisbaena/format/Direction", "writer", "(Ljava/lang/Object;Ljava/lang/Object;)Ljava/lang/Object;"⟩ : MethodName)) (z := (⟨"com/example/amphisbaena/amphisbaena/format/Direction", "writer", "(Ljava/lang/Object;Ljava/lang/Object;)Ljava/lang/Object;"⟩ : MethodName)) hown (mvT hZ (hw _ (List.mem_of_getElem? (i := 10) rfl))) (mvT hZ (hw _ (List.mem_of_getElem? (i := 11) rfl))) (notFace_of_selects (args := #[]) (mvT hZ (hw _ (List.mem_of_getElem? (i := 13) rfl)))) (mvT hZ (hw _ (List.mem_of_getElem? (i := 13) rfl))) (mvT hZ (hw _ (List.mem_of_getElem? (i := 12) rfl))) (by decide) (backOf (W := 0) (rmwF l Z a0 hw [] aF r_34 r_28 aB T18.heap n0 ZS18 (SB.ext Od18.2) neF) hZ (hw _ (List.mem_of_getElem? (i := 14) rfl)) (hw _ (List.mem_of_getElem? (i := 1) rfl)) (by decide) (by decide)) q25a q25c (g := (mkF m 73 #[.val (.int p0), .val (.int p1), .val (.int p2), .val (.int fw), .val (.ref aF), .val (.ref r_28), .val (.ref r_34), .val (.ref r_34), .val (.ref r_28), .unset, .unset, .unset, .unset, .unset, .unset] [(.ref r_28), (.ref r_34), (.ref aF)])) rfl (by rw [hml]; rfl) (Steps.refl _) (argsL := [(.ref r_34), (.ref r_28)]) (rest := []) (lenOf pd0_1 rfl) rfl (by show 2 * 0 + _ ≤ _; exact Nat.le_of_eq rfl) (hb hby at_73) (fun _ _ => ⟨rfl, e24, (by decide : 2 + 0 ≤ _), (by decide : 2 + 0 ≤ _)⟩)
    dsimp only [Pt.U, Pt.locs, Pt.cells, Pt.slots] at X25 lq25 yq25 zq25 st25 hQ25
    subst lq25 yq25 zq25
    obtain ⟨rfl, Nq25, e25⟩ := hQ25
    have N25 := Fr.app N23 Nq25
    refine OGo.steps st25 ?_
    show OGo p e below _ (T25.setTop (mkF m 76 #[.val (.int p0), .val (.int p1), .val (.int p2), .val (.int fw), .val (.ref aF), .val (.ref r_28), .val (.ref r_34), .val (.ref r_34), .val (.ref r_28), .unset, .unset, .unset, .unset, .unset, .unset] [(.ref r_28)]))
    obtain ⟨T26, X26, e26, st26⟩ := castY X25 hx hZ hown (hw _ (List.mem_of_getElem? (i := 16) rfl)) e25 (Ins.self Er17_19) (g := (mkF m 76 #[.val (.int p0), .val (.int p1), .val (.int p2), .val (.int fw), .val (.ref aF), .val (.ref r_28), .val (.ref r_34), .val (.ref r_34), .val (.ref r_28), .unset, .unset, .unset, .unset, .unset, .unset] [(.ref r_28)])) rfl rfl (hb hby at_76)
    refine OGo.step (fun uK kK => st26 uK kK) ?_
    show OGo p e below _ (T26.setTop (mkF m 79 #[.val (.int p0), .val (.int p1), .val (.int p2), .val (.int fw), .val (.ref aF), .val (.ref r_28), .val (.ref r_34), .val (.ref r_34), .val (.ref r_28), .unset, .unset, .unset, .unset, .unset, .unset] [(.ref r_28)]))
    refine OGo.step (fun uK kK => XS.astore X26.here hx rfl (hb hby at_79) rfl rfl (l' := #[.val (.int p0), .val (.int p1), .val (.int p2), .val (.int fw), .val (.ref aF), .val (.ref r_28), .val (.ref r_34), .val (.ref r_34), .val (.ref r_28), .val (.ref r_28), .unset, .unset, .unset, .unset, .unset]) rfl kK) ?_
    show OGo p e below _ (T26.setTop (mkF m 81 #[.val (.int p0), .val (.int p1), .val (.int p2), .val (.int fw), .val (.ref aF), .val (.ref r_28), .val (.ref r_34), .val (.ref r_34), .val (.ref r_28), .val (.ref r_28), .unset, .unset, .unset, .unset, .unset] []))
    refine OGo.step (fun uK kK => XS.aload X26.here hx rfl (hb hby at_81) rfl rfl kK) ?_
    show OGo p e below _ (T26.setTop (mkF m 83 #[.val (.int p0), .val (.int p1), .val (.int p2), .val (.int fw), .val (.ref aF), .val (.ref r_28), .val (.ref r_34), .val (.ref r_34), .val (.ref r_28), .val (.ref r_28), .unset, .unset, .unset, .unset, .unset] [(.ref r_34)]))
    obtain ⟨cq27, kq27, q27a, q27b, q27c⟩ := isOf hZ e26 Er18
    obtain ⟨_, _, ⟨T27, Lq27, kq_27, nq_27⟩, -, X27, ⟨Lc27, hQ27, lq27, yq27, zq27⟩, st27⟩ := X26.virtualBack hx (y := (⟨"java/lang/Integer", "intValue", "()I"⟩ : MethodName)) (z := (⟨"java/lang/Integer", "intValue", "()I"⟩ : MethodName)) hown (mvT hZ (hw _ (List.mem_of_getElem? (i := 23) rfl))) (mvT hZ (hw _ (List.mem_of_getElem? (i := 24) rfl))) (notFace_of_selects (args := #[]) (mvT hZ (hw _ (List.mem_of_getElem? (i := 26) rfl)))) (mvT hZ (hw _ (List.mem_of_getElem? (i := 26) rfl))) (mvT hZ (hw _ (List.mem_of_getElem? (i := 25) rfl))) (by decide) (backOf (W := 0) (rmiv l Z a0 hw [] r_34 p2 T18.heap n0 ZS18 Fv18) hZ (hw _ (List.mem_of_getElem? (i := 27) rfl)) (hw _ (List.mem_of_getElem? (i := 5) rfl)) (by decide) (by decide)) q27a q27c (g := (mkF m 83 #[.val (.int p0), .val (.int p1), .val (.int p2), .val (.int fw), .val (.ref aF), .val (.ref r_28), .val (.ref r_34), .val (.ref r_34), .val (.ref r_28), .val (.ref r_28), .unset, .unset, .unset, .unset, .unset] [(.ref r_34)])) rfl (by rw [hml]; rfl) (Steps.refl _) (argsL := []) (rest := []) (lenOf pd0_2 rfl) rfl (by show 2 * 0 + _ ≤ _; exact Nat.le_of_eq rfl) (hb hby at_83) (fun _ _ => ⟨rfl, e26, (by decide : 2 + 0 ≤ _), (by decide : 2 + 0 ≤ _)⟩)
    dsimp only [Pt.U, Pt.locs, Pt.cells, Pt.slots] at X27 lq27 yq27 zq27 st27 hQ27
    subst lq27 yq27 zq27
    obtain ⟨rfl, Nq27, e27⟩ := hQ27
    have N27 := Fr.app N25 Nq27
    refine OGo.steps st27 ?_
    show OGo p e below _ (T27.setTop (mkF m 86 #[.val (.int p0), .val (.int p1), .val (.int p2), .val (.int fw), .val (.ref aF), .val (.ref r_28), .val (.ref r_34), .val (.ref r_34), .val (.ref r_28), .val (.ref r_28), .unset, .unset, .unset, .unset, .unset] [(.int p2)]))
    refine OGo.step (fun uK kK => XS.istore X27.here hx rfl (hb hby at_86) rfl (l' := #[.val (.int p0), .val (.int p1), .val (.int p2), .val (.int fw), .val (.ref aF), .val (.ref r_28), .val (.ref r_34), .val (.ref r_34), .val (.ref r_28), .val (.ref r_28), .val (.int p2), .unset, .unset, .unset, .unset]) rfl kK) ?_
    show OGo p e below _ (T27.setTop (mkF m 88 #[.val (.int p0), .val (.int p1), .val (.int p2), .val (.int fw), .val (.ref aF), .val (.ref r_28), .val (.ref r_34), .val (.ref r_34), .val (.ref r_28), .val (.ref r_28), .val (.int p2), .unset, .unset, .unset, .unset] []))
    refine OGo.step (fun uK kK => XS.aload X27.here hx rfl (hb hby at_88) rfl rfl kK) ?_
    show OGo p e below _ (T27.setTop (mkF m 90 #[.val (.int p0), .val (.int p1), .val (.int p2), .val (.int fw), .val (.ref aF), .val (.ref r_28), .val (.ref r_34), .val (.ref r_34), .val (.ref r_28), .val (.ref r_28), .val (.int p2), .unset, .unset, .unset, .unset] [(.ref r_28)]))
    obtain ⟨cq28, kq28, q28a, q28b, q28c⟩ := isOf hZ e27 Er17_19
    obtain ⟨_, _, ⟨T28, Lq28, kq_28, nq_28⟩, -, X28, ⟨Lc28, hQ28, lq28, yq28, zq28⟩, st28⟩ := X27.virtualBack hx (y := (⟨"java/lang/Integer", "intValue", "()I"⟩ : MethodName)) (z := (⟨"java/lang/Integer", "intValue", "()I"⟩ : MethodName)) hown (mvT hZ (hw _ (List.mem_of_getElem? (i := 23) rfl))) (mvT hZ (hw _ (List.mem_of_getElem? (i := 24) rfl))) (notFace_of_selects (args := #[]) (mvT hZ (hw _ (List.mem_of_getElem? (i := 26) rfl)))) (mvT hZ (hw _ (List.mem_of_getElem? (i := 26) rfl))) (mvT hZ (hw _ (List.mem_of_getElem? (i := 25) rfl))) (by decide) (backOf (W := 0) (rmiv l Z a0 hw [] r_28 p1 T18.heap n0 ZS18 Fv17_20) hZ (hw _ (List.mem_of_getElem? (i := 27) rfl)) (hw _ (List.mem_of_getElem? (i := 5) rfl)) (by decide) (by decide)) q28a q28c (g := (mkF m 90 #[.val (.int p0), .val (.int p1), .val (.int p2), .val (.int fw), .val (.ref aF), .val (.ref r_28), .val (.ref r_34), .val (.ref r_34), .val (.ref r_28), .val (.ref r_28), .val (.int p2), .unset, .unset, .unset, .unset] [(.ref r_28)])) rfl (by rw [hml]; rfl) (Steps.refl _) (argsL := []) (rest := []) (lenOf pd0_2 rfl) rfl (by show 2 * 0 + _ ≤ _; exact Nat.le_of_eq rfl) (hb hby at_90) (fun _ _ => ⟨rfl, e27, (by decide : 2 + 0 ≤ _), (by decide : 2 + 0 ≤ _)⟩)
    dsimp only [Pt.U, Pt.locs, Pt.cells, Pt.slots] at X28 lq28 yq28 zq28 st28 hQ28
    subst lq28 yq28 zq28
    obtain ⟨rfl, Nq28, e28⟩ := hQ28
    have N28 := Fr.app N27 Nq28
    refine OGo.steps st28 ?_
    show OGo p e below _ (T28.setTop (mkF m 93 #[.val (.int p0), .val (.int p1), .val (.int p2), .val (.int fw), .val (.ref aF), .val (.ref r_28), .val (.ref r_34), .val (.ref r_34), .val (.ref r_28), .val (.ref r_28), .val (.int p2), .unset, .unset, .unset, .unset] [(.int p1)]))
    refine OGo.step (fun uK kK => XS.istore X28.here hx rfl (hb hby at_93) rfl (l' := #[.val (.int p0), .val (.int p1), .val (.int p2), .val (.int fw), .val (.ref aF), .val (.ref r_28), .val (.ref r_34), .val (.ref r_34), .val (.ref r_28), .val (.ref r_28), .val (.int p2), .val (.int p1), .unset, .unset, .unset]) rfl kK) ?_
    show OGo p e below _ (T28.setTop (mkF m 95 #[.val (.int p0), .val (.int p1), .val (.int p2), .val (.int fw), .val (.ref aF), .val (.ref r_28), .val (.ref r_34), .val (.ref r_34), .val (.ref r_28), .val (.ref r_28), .val (.int p2), .val (.int p1), .unset, .unset, .unset] []))
    refine OGo.step (fun uK kK => XS.iloadN X28.here hx rfl (hb hby at_95) rfl kK) ?_
    show OGo p e below _ (T28.setTop (mkF m 96 #[.val (.int p0), .val (.int p1), .val (.int p2), .val (.int fw), .val (.ref aF), .val (.ref r_28), .val (.ref r_34), .val (.ref r_34), .val (.ref r_28), .val (.ref r_28), .val (.int p2), .val (.int p1), .unset, .unset, .unset] [(.int fw)]))
    refine OGo.step (fun uK kK => XS.ifNo X28.here hx rfl (hb hby at_96) rfl ((if0 _ _).trans (feq hc13).1) kK) ?_
    show OGo p e below _ (T28.setTop (mkF m 99 #[.val (.int p0), .val (.int p1), .val (.int p2), .val (.int fw), .val (.ref aF), .val (.ref r_28), .val (.ref r_34), .val (.ref r_34), .val (.ref r_28), .val (.ref r_28), .val (.int p2), .val (.int p1), .unset, .unset, .unset] []))
    refine OGo.step (fun uK kK => XS.iload X28.here hx rfl (hb hby at_99) rfl kK) ?_
    show OGo p e below _ (T28.setTop (mkF m 101 #[.val (.int p0), .val (.int p1), .val (.int p2), .val (.int fw), .val (.ref aF), .val (.ref r_28), .val (.ref r_34), .val (.ref r_34), .val (.ref r_28), .val (.ref r_28), .val (.int p2), .val (.int p1), .unset, .unset, .unset] [(.int p2)]))
    refine OGo.step (fun uK kK => XS.iloadN X28.here hx rfl (hb hby at_101) rfl kK) ?_
    show OGo p e below _ (T28.setTop (mkF m 102 #[.val (.int p0), .val (.int p1), .val (.int p2), .val (.int fw), .val (.ref aF), .val (.ref r_28), .val (.ref r_34), .val (.ref r_34), .val (.ref r_28), .val (.ref r_28), .val (.int p2), .val (.int p1), .unset, .unset, .unset] [(.int p2), (.int p2)]))
    have hc102 : p2 = p2 := rfl
    refine OGo.step (fun uK kK => XS.icmpNo X28.here hx rfl (hb hby at_102) rfl (teq hc102).2 kK) ?_
    show OGo p e below _ (T28.setTop (mkF m 105 #[.val (.int p0), .val (.int p1), .val (.int p2), .val (.int fw), .val (.ref aF), .val (.ref r_28), .val (.ref r_34), .val (.ref r_34), .val (.ref r_28), .val (.ref r_28), .val (.int p2), .val (.int p1), .unset, .unset, .unset] []))
    refine OGo.step (fun uK kK => XS.iconst X28.here hx rfl (hb hby at_105) kK) ?_
    show OGo p e below _ (T28.setTop (mkF m 106 #[.val (.int p0), .val (.int p1), .val (.int p2), .val (.int fw), .val (.ref aF), .val (.ref r_28), .val (.ref r_34), .val (.ref r_34), .val (.ref r_28), .val (.ref r_28), .val (.int p2), .val (.int p1), .unset, .unset, .unset] [(.int (1 : Int32))]))
    refine OGo.step (fun uK kK => XS.goto X28.here hx rfl (pc0 := 106) (pc' := 124) rfl (hb hby at_106) (by decide) (by decide) kK) ?_
    show OGo p e below _ (T28.setTop (mkF m 124 #[.val (.int p0), .val (.int p1), .val (.int p2), .val (.int fw), .val (.ref aF), .val (.ref r_28), .val (.ref r_34), .val (.ref r_34), .val (.ref r_28), .val (.ref r_28), .val (.int p2), .val (.int p1), .unset, .unset, .unset] [(.int (1 : Int32))]))
    refine OGo.step (fun uK kK => XS.istore X28.here hx rfl (hb hby at_124) rfl (l' := #[.val (.int p0), .val (.int p1), .val (.int p2), .val (.int fw), .val (.ref aF), .val (.ref r_28), .val (.ref r_34), .val (.ref r_34), .val (.ref r_28), .val (.ref r_28), .val (.int p2), .val (.int p1), .val (.int (1 : Int32)), .unset, .unset]) rfl kK) ?_
    show OGo p e below _ (T28.setTop (mkF m 126 #[.val (.int p0), .val (.int p1), .val (.int p2), .val (.int fw), .val (.ref aF), .val (.ref r_28), .val (.ref r_34), .val (.ref r_34), .val (.ref r_28), .val (.ref r_28), .val (.int p2), .val (.int p1), .val (.int (1 : Int32)), .unset, .unset] []))
    refine OGo.step (fun uK kK => XS.aload X28.here hx rfl (hb hby at_126) rfl rfl kK) ?_
    show OGo p e below _ (T28.setTop (mkF m 128 #[.val (.int p0), .val (.int p1), .val (.int p2), .val (.int fw), .val (.ref aF), .val (.ref r_28), .val (.ref r_34), .val (.ref r_34), .val (.ref r_28), .val (.ref r_28), .val (.int p2), .val (.int p1), .val (.int (1 : Int32)), .unset, .unset] [(.ref r_28)]))
    obtain ⟨cq29, kq29, q29a, q29b, q29c⟩ := isOf hZ e28 Er17_19
    obtain ⟨_, _, ⟨T29, Lq29, kq_29, nq_29⟩, -, X29, ⟨Lc29, hQ29, lq29, yq29, zq29⟩, st29⟩ := X28.virtualBack hx (y := (⟨"java/lang/Integer", "intValue", "()I"⟩ : MethodName)) (z := (⟨"java/lang/Integer", "intValue", "()I"⟩ : MethodName)) hown (mvT hZ (hw _ (List.mem_of_getElem? (i := 23) rfl))) (mvT hZ (hw _ (List.mem_of_getElem? (i := 24) rfl))) (notFace_of_selects (args := #[]) (mvT hZ (hw _ (List.mem_of_getElem? (i := 26) rfl)))) (mvT hZ (hw _ (List.mem_of_getElem? (i := 26) rfl))) (mvT hZ (hw _ (List.mem_of_getElem? (i := 25) rfl))) (by decide) (backOf (W := 0) (rmiv l Z a0 hw [] r_28 p1 T18.heap n0 ZS18 Fv17_20) hZ (hw _ (List.mem_of_getElem? (i := 27) rfl)) (hw _ (List.mem_of_getElem? (i := 5) rfl)) (by decide) (by decide)) q29a q29c (g := (mkF m 128 #[.val (.int p0), .val (.int p1), .val (.int p2), .val (.int fw), .val (.ref aF), .val (.ref r_28), .val (.ref r_34), .val (.ref r_34), .val (.ref r_28), .val (.ref r_28), .val (.int p2), .val (.int p1), .val (.int (1 : Int32)), .unset, .unset] [(.ref r_28)])) rfl (by rw [hml]; rfl) (Steps.refl _) (argsL := []) (rest := []) (lenOf pd0_2 rfl) rfl (by show 2 * 0 + _ ≤ _; exact Nat.le_of_eq rfl) (hb hby at_128) (fun _ _ => ⟨rfl, e28, (by decide : 2 + 0 ≤ _), (by decide : 2 + 0 ≤ _)⟩)
    dsimp only [Pt.U, Pt.locs, Pt.cells, Pt.slots] at X29 lq29 yq29 zq29 st29 hQ29
    subst lq29 yq29 zq29
    obtain ⟨rfl, Nq29, e29⟩ := hQ29
    have N29 := Fr.app N28 Nq29
    refine OGo.steps st29 ?_
    show OGo p e below _ (T29.setTop (mkF m 131 #[.val (.int p0), .val (.int p1), .val (.int p2), .val (.int fw), .val (.ref aF), .val (.ref r_28), .val (.ref r_34), .val (.ref r_34), .val (.ref r_28), .val (.ref r_28), .val (.int p2), .val (.int p1), .val (.int (1 : Int32)), .unset, .unset] [(.int p1)]))
    refine OGo.step (fun uK kK => XS.iload X29.here hx rfl (hb hby at_131) rfl kK) ?_
    show OGo p e below _ (T29.setTop (mkF m 133 #[.val (.int p0), .val (.int p1), .val (.int p2), .val (.int fw), .val (.ref aF), .val (.ref r_28), .val (.ref r_34), .val (.ref r_34), .val (.ref r_28), .val (.ref r_28), .val (.int p2), .val (.int p1), .val (.int (1 : Int32)), .unset, .unset] [(.int p1), (.int p1)]))
    have hc133 : p1 = p1 := rfl
    refine OGo.step (fun uK kK => XS.icmpNo X29.here hx rfl (hb hby at_133) rfl (teq hc133).2 kK) ?_
    show OGo p e below _ (T29.setTop (mkF m 136 #[.val (.int p0), .val (.int p1), .val (.int p2), .val (.int fw), .val (.ref aF), .val (.ref r_28), .val (.ref r_34), .val (.ref r_34), .val (.ref r_28), .val (.ref r_28), .val (.int p2), .val (.int p1), .val (.int (1 : Int32)), .unset, .unset] []))
    refine OGo.step (fun uK kK => XS.iconst X29.here hx rfl (hb hby at_136) kK) ?_
    show OGo p e below _ (T29.setTop (mkF m 137 #[.val (.int p0), .val (.int p1), .val (.int p2), .val (.int fw), .val (.ref aF), .val (.ref r_28), .val (.ref r_34), .val (.ref r_34), .val (.ref r_28), .val (.ref r_28), .val (.int p2), .val (.int p1), .val (.int (1 : Int32)), .unset, .unset] [(.int (1 : Int32))]))
    refine OGo.step (fun uK kK => XS.goto X29.here hx rfl (pc0 := 137) (pc' := 141) rfl (hb hby at_137) (by decide) (by decide) kK) ?_
    show OGo p e below _ (T29.setTop (mkF m 141 #[.val (.int p0), .val (.int p1), .val (.int p2), .val (.int fw), .val (.ref aF), .val (.ref r_28), .val (.ref r_34), .val (.ref r_34), .val (.ref r_28), .val (.ref r_28), .val (.int p2), .val (.int p1), .val (.int (1 : Int32)), .unset, .unset] [(.int (1 : Int32))]))
    refine OGo.step (fun uK kK => XS.istore X29.here hx rfl (hb hby at_141) rfl (l' := #[.val (.int p0), .val (.int p1), .val (.int p2), .val (.int fw), .val (.ref aF), .val (.ref r_28), .val (.ref r_34), .val (.ref r_34), .val (.ref r_28), .val (.ref r_28), .val (.int p2), .val (.int p1), .val (.int (1 : Int32)), .val (.int (1 : Int32)), .unset]) rfl kK) ?_
    show OGo p e below _ (T29.setTop (mkF m 143 #[.val (.int p0), .val (.int p1), .val (.int p2), .val (.int fw), .val (.ref aF), .val (.ref r_28), .val (.ref r_34), .val (.ref r_34), .val (.ref r_28), .val (.ref r_28), .val (.int p2), .val (.int p1), .val (.int (1 : Int32)), .val (.int (1 : Int32)), .unset] []))
    refine OGo.step (fun uK kK => XS.iload X29.here hx rfl (hb hby at_143) rfl kK) ?_
    show OGo p e below _ (T29.setTop (mkF m 145 #[.val (.int p0), .val (.int p1), .val (.int p2), .val (.int fw), .val (.ref aF), .val (.ref r_28), .val (.ref r_34), .val (.ref r_34), .val (.ref r_28), .val (.ref r_28), .val (.int p2), .val (.int p1), .val (.int (1 : Int32)), .val (.int (1 : Int32)), .unset] [(.int p2)]))
    refine OGo.step (fun uK kK => XS.i2l X29.here hx rfl (hb hby at_145) rfl kK) ?_
    show OGo p e below _ (T29.setTop (mkF m 146 #[.val (.int p0), .val (.int p1), .val (.int p2), .val (.int fw), .val (.ref aF), .val (.ref r_28), .val (.ref r_34), .val (.ref r_34), .val (.ref r_28), .val (.ref r_28), .val (.int p2), .val (.int p1), .val (.int (1 : Int32)), .val (.int (1 : Int32)), .unset] [(.long (p2.toInt64))]))
    refine OGo.step (fun uK kK => XS.iload X29.here hx rfl (hb hby at_146) rfl kK) ?_
    show OGo p e below _ (T29.setTop (mkF m 148 #[.val (.int p0), .val (.int p1), .val (.int p2), .val (.int fw), .val (.ref aF), .val (.ref r_28), .val (.ref r_34), .val (.ref r_34), .val (.ref r_28), .val (.ref r_28), .val (.int p2), .val (.int p1), .val (.int (1 : Int32)), .val (.int (1 : Int32)), .unset] [(.int p1), (.long (p2.toInt64))]))
    refine OGo.step (fun uK kK => XS.i2l X29.here hx rfl (hb hby at_148) rfl kK) ?_
    show OGo p e below _ (T29.setTop (mkF m 149 #[.val (.int p0), .val (.int p1), .val (.int p2), .val (.int fw), .val (.ref aF), .val (.ref r_28), .val (.ref r_34), .val (.ref r_34), .val (.ref r_28), .val (.ref r_28), .val (.int p2), .val (.int p1), .val (.int (1 : Int32)), .val (.int (1 : Int32)), .unset] [(.long (p1.toInt64)), (.long (p2.toInt64))]))
    refine OGo.step (fun uK kK => XS.ladd X29.here hx rfl (hb hby at_149) rfl kK) ?_
    show OGo p e below _ (T29.setTop (mkF m 150 #[.val (.int p0), .val (.int p1), .val (.int p2), .val (.int fw), .val (.ref aF), .val (.ref r_28), .val (.ref r_34), .val (.ref r_34), .val (.ref r_28), .val (.ref r_28), .val (.int p2), .val (.int p1), .val (.int (1 : Int32)), .val (.int (1 : Int32)), .unset] [(.long ((p2.toInt64) + (p1.toInt64)))]))
    refine OGo.step (fun uK kK => XS.iloadN X29.here hx rfl (hb hby at_150) rfl kK) ?_
    show OGo p e below _ (T29.setTop (mkF m 151 #[.val (.int p0), .val (.int p1), .val (.int p2), .val (.int fw), .val (.ref aF), .val (.ref r_28), .val (.ref r_34), .val (.ref r_34), .val (.ref r_28), .val (.ref r_28), .val (.int p2), .val (.int p1), .val (.int (1 : Int32)), .val (.int (1 : Int32)), .unset] [(.int p1), (.long ((p2.toInt64) + (p1.toInt64)))]))
    refine OGo.step (fun uK kK => XS.i2l X29.here hx rfl (hb hby at_151) rfl kK) ?_
    show OGo p e below _ (T29.setTop (mkF m 152 #[.val (.int p0), .val (.int p1), .val (.int p2), .val (.int fw), .val (.ref aF), .val (.ref r_28), .val (.ref r_34), .val (.ref r_34), .val (.ref r_28), .val (.ref r_28), .val (.int p2), .val (.int p1), .val (.int (1 : Int32)), .val (.int (1 : Int32)), .unset] [(.long (p1.toInt64)), (.long ((p2.toInt64) + (p1.toInt64)))]))
    refine OGo.step (fun uK kK => XS.iloadN X29.here hx rfl (hb hby at_152) rfl kK) ?_
    show OGo p e below _ (T29.setTop (mkF m 153 #[.val (.int p0), .val (.int p1), .val (.int p2), .val (.int fw), .val (.ref aF), .val (.ref r_28), .val (.ref r_34), .val (.ref r_34), .val (.ref r_28), .val (.ref r_28), .val (.int p2), .val (.int p1), .val (.int (1 : Int32)), .val (.int (1 : Int32)), .unset] [(.int p2), (.long (p1.toInt64)), (.long ((p2.toInt64) + (p1.toInt64)))]))
    refine OGo.step (fun uK kK => XS.i2l X29.here hx rfl (hb hby at_153) rfl kK) ?_
    show OGo p e below _ (T29.setTop (mkF m 154 #[.val (.int p0), .val (.int p1), .val (.int p2), .val (.int fw), .val (.ref aF), .val (.ref r_28), .val (.ref r_34), .val (.ref r_34), .val (.ref r_28), .val (.ref r_28), .val (.int p2), .val (.int p1), .val (.int (1 : Int32)), .val (.int (1 : Int32)), .unset] [(.long (p2.toInt64)), (.long (p1.toInt64)), (.long ((p2.toInt64) + (p1.toInt64)))]))
    refine OGo.step (fun uK kK => XS.ladd X29.here hx rfl (hb hby at_154) rfl kK) ?_
    show OGo p e below _ (T29.setTop (mkF m 155 #[.val (.int p0), .val (.int p1), .val (.int p2), .val (.int fw), .val (.ref aF), .val (.ref r_28), .val (.ref r_34), .val (.ref r_34), .val (.ref r_28), .val (.ref r_28), .val (.int p2), .val (.int p1), .val (.int (1 : Int32)), .val (.int (1 : Int32)), .unset] [(.long ((p1.toInt64) + (p2.toInt64))), (.long ((p2.toInt64) + (p1.toInt64)))]))
    refine OGo.step (fun uK kK => XS.lcmp X29.here hx rfl (hb hby at_155) rfl kK) ?_
    show OGo p e below _ (T29.setTop (mkF m 156 #[.val (.int p0), .val (.int p1), .val (.int p2), .val (.int fw), .val (.ref aF), .val (.ref r_28), .val (.ref r_34), .val (.ref r_34), .val (.ref r_28), .val (.ref r_28), .val (.int p2), .val (.int p1), .val (.int (1 : Int32)), .val (.int (1 : Int32)), .unset] [(.int (lcmpW ((p2.toInt64) + (p1.toInt64)) ((p1.toInt64) + (p2.toInt64))))]))
    have hc156 : ((p2.toInt64) + (p1.toInt64)) = ((p1.toInt64) + (p2.toInt64)) := Int64.add_comm _ _
    refine OGo.step (fun uK kK => XS.ifNo X29.here hx rfl (hb hby at_156) rfl ((if0 _ _).trans (teq ((lw_eq _ _).mpr hc156)).2) kK) ?_
    show OGo p e below _ (T29.setTop (mkF m 159 #[.val (.int p0), .val (.int p1), .val (.int p2), .val (.int fw), .val (.ref aF), .val (.ref r_28), .val (.ref r_34), .val (.ref r_34), .val (.ref r_28), .val (.ref r_28), .val (.int p2), .val (.int p1), .val (.int (1 : Int32)), .val (.int (1 : Int32)), .unset] []))
    refine OGo.step (fun uK kK => XS.iconst X29.here hx rfl (hb hby at_159) kK) ?_
    show OGo p e below _ (T29.setTop (mkF m 160 #[.val (.int p0), .val (.int p1), .val (.int p2), .val (.int fw), .val (.ref aF), .val (.ref r_28), .val (.ref r_34), .val (.ref r_34), .val (.ref r_28), .val (.ref r_28), .val (.int p2), .val (.int p1), .val (.int (1 : Int32)), .val (.int (1 : Int32)), .unset] [(.int (1 : Int32))]))
    refine OGo.step (fun uK kK => XS.goto X29.here hx rfl (pc0 := 160) (pc' := 164) rfl (hb hby at_160) (by decide) (by decide) kK) ?_
    show OGo p e below _ (T29.setTop (mkF m 164 #[.val (.int p0), .val (.int p1), .val (.int p2), .val (.int fw), .val (.ref aF), .val (.ref r_28), .val (.ref r_34), .val (.ref r_34), .val (.ref r_28), .val (.ref r_28), .val (.int p2), .val (.int p1), .val (.int (1 : Int32)), .val (.int (1 : Int32)), .unset] [(.int (1 : Int32))]))
    refine OGo.step (fun uK kK => XS.istore X29.here hx rfl (hb hby at_164) rfl (l' := #[.val (.int p0), .val (.int p1), .val (.int p2), .val (.int fw), .val (.ref aF), .val (.ref r_28), .val (.ref r_34), .val (.ref r_34), .val (.ref r_28), .val (.ref r_28), .val (.int p2), .val (.int p1), .val (.int (1 : Int32)), .val (.int (1 : Int32)), .val (.int (1 : Int32))]) rfl kK) ?_
    show OGo p e below _ (T29.setTop (mkF m 166 #[.val (.int p0), .val (.int p1), .val (.int p2), .val (.int fw), .val (.ref aF), .val (.ref r_28), .val (.ref r_34), .val (.ref r_34), .val (.ref r_28), .val (.ref r_28), .val (.int p2), .val (.int p1), .val (.int (1 : Int32)), .val (.int (1 : Int32)), .val (.int (1 : Int32))] []))
    refine OGo.step (fun uK kK => XS.iload X29.here hx rfl (hb hby at_166) rfl kK) ?_
    show OGo p e below _ (T29.setTop (mkF m 168 #[.val (.int p0), .val (.int p1), .val (.int p2), .val (.int fw), .val (.ref aF), .val (.ref r_28), .val (.ref r_34), .val (.ref r_34), .val (.ref r_28), .val (.ref r_28), .val (.int p2), .val (.int p1), .val (.int (1 : Int32)), .val (.int (1 : Int32)), .val (.int (1 : Int32))] [(.int (1 : Int32))]))
    have hc168 : ¬ ((1 : Int32) = (0 : Int32)) := by decide
    refine OGo.step (fun uK kK => XS.ifNo X29.here hx rfl (hb hby at_168) rfl ((if0 _ _).trans (feq hc168).1) kK) ?_
    show OGo p e below _ (T29.setTop (mkF m 171 #[.val (.int p0), .val (.int p1), .val (.int p2), .val (.int fw), .val (.ref aF), .val (.ref r_28), .val (.ref r_34), .val (.ref r_34), .val (.ref r_28), .val (.ref r_28), .val (.int p2), .val (.int p1), .val (.int (1 : Int32)), .val (.int (1 : Int32)), .val (.int (1 : Int32))] []))
    refine OGo.step (fun uK kK => XS.iload X29.here hx rfl (hb hby at_171) rfl kK) ?_
    show OGo p e below _ (T29.setTop (mkF m 173 #[.val (.int p0), .val (.int p1), .val (.int p2), .val (.int fw), .val (.ref aF), .val (.ref r_28), .val (.ref r_34), .val (.ref r_34), .val (.ref r_28), .val (.ref r_28), .val (.int p2), .val (.int p1), .val (.int (1 : Int32)), .val (.int (1 : Int32)), .val (.int (1 : Int32))] [(.int (1 : Int32))]))
    have hc173 : ¬ ((1 : Int32) = (0 : Int32)) := by decide
    refine OGo.step (fun uK kK => XS.ifNo X29.here hx rfl (hb hby at_173) rfl ((if0 _ _).trans (feq hc173).1) kK) ?_
    show OGo p e below _ (T29.setTop (mkF m 176 #[.val (.int p0), .val (.int p1), .val (.int p2), .val (.int fw), .val (.ref aF), .val (.ref r_28), .val (.ref r_34), .val (.ref r_34), .val (.ref r_28), .val (.ref r_28), .val (.int p2), .val (.int p1), .val (.int (1 : Int32)), .val (.int (1 : Int32)), .val (.int (1 : Int32))] []))
    refine OGo.step (fun uK kK => XS.iload X29.here hx rfl (hb hby at_176) rfl kK) ?_
    show OGo p e below _ (T29.setTop (mkF m 178 #[.val (.int p0), .val (.int p1), .val (.int p2), .val (.int fw), .val (.ref aF), .val (.ref r_28), .val (.ref r_34), .val (.ref r_34), .val (.ref r_28), .val (.ref r_28), .val (.int p2), .val (.int p1), .val (.int (1 : Int32)), .val (.int (1 : Int32)), .val (.int (1 : Int32))] [(.int (1 : Int32))]))
    have hc178 : ¬ ((1 : Int32) = (0 : Int32)) := by decide
    refine OGo.step (fun uK kK => XS.ifNo X29.here hx rfl (hb hby at_178) rfl ((if0 _ _).trans (feq hc178).1) kK) ?_
    show OGo p e below _ (T29.setTop (mkF m 181 #[.val (.int p0), .val (.int p1), .val (.int p2), .val (.int fw), .val (.ref aF), .val (.ref r_28), .val (.ref r_34), .val (.ref r_34), .val (.ref r_28), .val (.ref r_28), .val (.int p2), .val (.int p1), .val (.int (1 : Int32)), .val (.int (1 : Int32)), .val (.int (1 : Int32))] []))
    refine OGo.step (fun uK kK => XS.iconst X29.here hx rfl (hb hby at_181) kK) ?_
    show OGo p e below _ (T29.setTop (mkF m 182 #[.val (.int p0), .val (.int p1), .val (.int p2), .val (.int fw), .val (.ref aF), .val (.ref r_28), .val (.ref r_34), .val (.ref r_34), .val (.ref r_28), .val (.ref r_28), .val (.int p2), .val (.int p1), .val (.int (1 : Int32)), .val (.int (1 : Int32)), .val (.int (1 : Int32))] [(.int (1 : Int32))]))
    refine OGo.step (fun uK kK => XS.goto X29.here hx rfl (pc0 := 182) (pc' := 186) rfl (hb hby at_182) (by decide) (by decide) kK) ?_
    show OGo p e below _ (T29.setTop (mkF m 186 #[.val (.int p0), .val (.int p1), .val (.int p2), .val (.int fw), .val (.ref aF), .val (.ref r_28), .val (.ref r_34), .val (.ref r_34), .val (.ref r_28), .val (.ref r_28), .val (.int p2), .val (.int p1), .val (.int (1 : Int32)), .val (.int (1 : Int32)), .val (.int (1 : Int32))] [(.int (1 : Int32))]))
    exact OGo.retN X29 hx Bd.notSynchronized (t := .boolean) Bd.returns (by simp) (hb hby at_186) (by decide) (by decide) (by show Q0 Z p0 p1 p2 aK cK aB aF h0 n0 _ T29.heap _; rw [e29]; exact ⟨rfl, N29⟩)
set_option maxRecDepth 65536 in
set_option maxHeartbeats 40000000 in
theorem comes_1 {Post : Tables → Env → Array Value → State → Outcome → State → Prop} (hpost : ∀ tb e args s v u, (limb_1_1.after args s (.returned v) u = true ∧ limb_1_2.after args s (.returned v) u = true ∧ True) → FrameEnd s (.returned v) u (Jvm.fieldLocs frame_1_writes args s ++ Jvm.arrayLocs frame_1_arrays args s ++ Jvm.staticLocs frame_1_statics s) 16 128 → Post tb e args s (.returned v) u) :
    ArmFor flags0 classFile x code maxLocals ret World_1 tables_1 room_1 Calls_1 rest_1 Pre_1 Post := by
  intro l hfl _ _ p e ha hc hk s m args below hf hA hF happ hP
  obtain ⟨hcalls, hrest, hpre⟩ := hP
  obtain ⟨-, -, -, hnamed, -, -, -, hat⟩ := (Spec.applies_iff hf).mp happ
  obtain ⟨hg, hn⟩ := and_e (Cond.before_iff.mp (show (Jvm.Cond.and given_1 narrow_1).before args s = true from hpre))
  obtain ⟨hcount, hg0⟩ := and_e hg
  obtain ⟨ga0, hg1⟩ := and_e hg0
  obtain ⟨ga1, hg2⟩ := and_e hg1
  have ga2 := hg2
  obtain ⟨w0, w1, w2, rfl⟩ : ∃ w0 w1 w2 : Value, args = #[w0, w1, w2] := by
    have hs : args.size = 3 := by simpa [Cond.value, given_1] using hcount
    obtain ⟨L⟩ := args
    match L, hs with
    | [w0, w1, w2], _ => exact ⟨w0, w1, w2, rfl⟩
  have hw := fun d (hd : d ∈ tables_1) => atoms_spec (ws := Jvm.Cond.code x code maxLocals ret :: tables_1) hat d (List.mem_cons_of_mem _ hd)
  have hfit : Fit s := fun {y c} hc i hi => by
    obtain ⟨ha, rfl⟩ := Array.getElem?_eq_some_iff.mp hc
    have q := List.all_eq_true.mp ((Array.all_eq_true_iff_forall_mem.mp hF) _ (Array.getElem_mem ha)) i (List.mem_range.mpr hi)
    simpa [Array.getElem?_eq_getElem hi] using q
  obtain ⟨hsets, hown0⟩ := atoms_of _ (rest_1_c_eq ▸ (show rest_1_c.before _ s = true from hrest))
  obtain ⟨i0, ei0⟩ := is_v ga0
  obtain rfl : w0 = (.int i0) := Option.some.inj ei0
  obtain ⟨i1, ei1⟩ := is_v ga1
  obtain rfl : w1 = (.int i1) := Option.some.inj ei1
  obtain ⟨i2, ei2⟩ := is_v ga2
  obtain rfl : w2 = (.int i2) := Option.some.inj ei2
  obtain ⟨nc0, ncr0⟩ := and_e hn
  obtain ⟨nc1, ncr1⟩ := and_e ncr0
  obtain ⟨nc2, ncr2⟩ := and_e ncr1
  have nc3 := ncr2
  obtain ⟨aB, evB⟩ := exa_v nc0
  obtain ⟨aF, evF⟩ := exa_v nc1
  have SB := Sta.start evB (Or.inr ⟨(hw _ (List.mem_of_getElem? (i := 1) rfl)), (hw _ (List.mem_of_getElem? (i := 2) rfl))⟩)
  have SF := Sta.start evF (Or.inr ⟨(hw _ (List.mem_of_getElem? (i := 1) rfl)), (hw _ (List.mem_of_getElem? (i := 31) rfl))⟩)
  have EB := Exa.start evB nc0
  have EF := Exa.start evF nc1
  have oB := Fld.start ((fld_at evB).symm.trans (own_eqI nc3 rfl))
  have oF := Fld.start ((fld_at evF).symm.trans (own_eqI nc2 rfl))
  have neF : ¬ (aF = aB) := Fld.ne oF oB (by decide)
  have SH := Sta.start (own_eqI (Cond.before_iff.mp (hsets _ (List.mem_of_getElem? (i := 3) rfl))) rfl) (Or.inl (hsets _ (List.mem_of_getElem? (i := 1) rfl)))
  obtain ⟨aK, evK⟩ := arr_v (Cond.before_iff.mp (hsets _ (List.mem_of_getElem? (i := 4) rfl)))
  have SC := Sta.start evK (Or.inr ⟨(hw _ (List.mem_of_getElem? (i := 8) rfl)), (hsets _ (List.mem_of_getElem? (i := 2) rfl))⟩)
  obtain ⟨cK, ArK⟩ := Arr.start evK (Cond.before_iff.mp (hsets _ (List.mem_of_getElem? (i := 4) rfl)))
  have szK : cK.slots.size = ((256 : Int32)).toNatClampNeg := own_size evK ArK (own_eqI (Cond.before_iff.mp (hsets _ (List.mem_of_getElem? (i := 6) rfl))) rfl)
  have hall := own_all (fun _ => evK) ArK szK (Cond.before_iff.mp (hsets _ (List.mem_of_getElem? (i := 7) rfl)))
  obtain ⟨n, o, h1, h2, h3, _, L, rfl, ⟨rfl, N⟩, hq⟩ := rm0 l s _ hw tables_1 i0 i1 i2 aK cK aB aF s.heap s.heap.size (Nat.le_refl _) SH SC ArK szK hall SB SF EB EF neF (Old.start s) p e ha hc hk s m _ below hf ((Spec.applies_iff_loose hf).mp happ).1 ⟨rfl, State.Warmed39.refl s, rfl⟩ trivial
  refine ⟨n, _, h1, h2, h3, hpost _ _ _ _ _ _ ⟨Cond.after_iff.mpr rfl, Cond.after_iff.mpr (eq_i res_at (Term.int_eval (1)) rfl), trivial⟩ ⟨hq.1, hq.2.1, (hq.2.2.sift fun y hy => Or.inr (N y hy)).mono (by decide) (by decide)⟩⟩
theorem main_1_1 : Claimed_1_1 := comes_1 fun _ _ _ _ _ _ h hF => ⟨h.1, hF⟩
theorem main_1_2 : Claimed_1_2 := comes_1 fun _ _ _ _ _ _ h hF => ⟨h.2.1, hF⟩
end Jvm.Pilot.@@N@@
namespace Jvm.Pilot.@@N@@
open Jvm Jvm.ClassFile Sem Op Lib Jvm.Free Jvm.Stand Jvm.Pilot.@@N@@.Jvm.D
/-! MADE BY PROGRAM (witnessworld.py) out of the Statement's table words and the real class files: 17 classes; the members and pool entries that the words name. The judged class is class 1, her method 1. -/
namespace start1
open Jvm.ClassFile
def u (s : String) : CpInfo := .utf8 (stringToUtf16 s)
/-- a pool by its gaps: so many unusable entries, then the entry; so many at the end -/
def gap : Nat → List CpInfo → List CpInfo
  | 0, r => r
  | n + 1, r => .unusable :: gap n r
def poolList (es : List (Nat × CpInfo)) (last : Nat) : List CpInfo := es.foldr (fun e r => gap e.1 (e.2 :: r)) (gap last [])
def pool (es : List (Nat × CpInfo)) (last : Nat) : Array CpInfo := ⟨poolList es last⟩
def fileOf (pool : Array CpInfo) (this : Nat) (attrs : Array Attribute := #[]) (ms : Array MethodInfo := #[]) (fl : Nat := 33) (sup : Nat := 0) (ifs : Array Nat := #[]) (fds : Array FieldInfo := #[]) : ClassFile where
  minorVersion := 0
  majorVersion := 65
  constantPool := pool
  accessFlags := fl
  thisClass := this
  superClass := sup
  interfaces := ifs
  fields := fds
  methods := ms
  attributes := attrs
def plain (name : String) (sup : Option ClassId) : Class where
  name := name
  kind := .ordinary
  loader := none
  accessFlags := 33
  super := sup
  interfaces := #[]
  cf := none
  fields := #[]
  methods := #[]
  instanceTypes := #[]
  staticTypes := #[]
  resolved := #[]
  callSites := []
  init := .initialized
  statics := none
  mirror := none

def pool0 : Array CpInfo := pool [(5, u "<init>"), (0, u "()V"), (1, .class_ 10), (1, u "java/lang/Object")] 113

def k0c0 : Code := { maxStack := 0, maxLocals := 1, code := object_method_1_code, exceptionTable := #[], attributes := #[] }
def k0m0 : Method := { name := "<init>", desc := "()V", sig := { parameters := [], returnType := none }, accessFlags := 1, code := some k0c0 }
/-- java/lang/Object -/
def k0 : Class := { plain "java/lang/Object" none with
  accessFlags := 33
  interfaces := #[]
  cf := some (fileOf pool0 8 #[] #[{ accessFlags := 1, nameIndex := 5, descriptorIndex := 6, attributes := #[] }] 33 0 #[] #[])
  fields := #[]
  methods := #[k0m0]
  instanceTypes := #[]
  staticTypes := #[]
  resolved := Array.replicate 124 none
  statics := none }

def pool1 : Array CpInfo := pool [(2, .class_ 4), (1, u "java/lang/Object"), (0, u "<init>"), (0, u "()V"), (0, .fieldref 8 9), (0, .class_ 10), (0, .nameAndType 11 12), (0, u "com/example/amphisbaena/amphisbaena/format/Direction"), (0, u "FORWARD"), (0, u "Lcom/example/amphisbaena/amphisbaena/format/Direction;"), (0, .fieldref 8 14), (0, .nameAndType 15 12), (0, u "BACKWARD"), (0, .methodref 17 18), (0, .class_ 19), (0, .nameAndType 20 21), (0, u "java/lang/Integer"), (0, u "valueOf"), (0, u "(I)Ljava/lang/Integer;"), (0, .methodref 8 23), (0, .nameAndType 24 25), (0, u "writer"), (0, u "(Ljava/lang/Object;Ljava/lang/Object;)Ljava/lang/Object;"), (0, .methodref 8 27), (0, .nameAndType 28 25), (0, u "reader"), (0, .methodref 17 30), (0, .nameAndType 31 32), (0, u "intValue"), (0, u "()I"), (0, .class_ 34), (0, u "com/example/amphisbaena/amphisbaena/format/DirectionWriterPinLaw"), (2, u "law"), (0, u "(III)Z")] 3

def k1m0 : Method := { name := "<init>", desc := "()V", sig := { parameters := [], returnType := none }, accessFlags := 1, code := none }
def k1c1 : Code := { maxStack := 6, maxLocals := 15, code := code, exceptionTable := #[], attributes := #[] }
def k1m1 : Method := { name := "law", desc := "(III)Z", sig := { parameters := [.int, .int, .int], returnType := some .boolean }, accessFlags := 9, code := some k1c1 }
/-- com/example/amphisbaena/amphisbaena/format/DirectionWriterPinLaw -/
def k1 : Class := { plain "com/example/amphisbaena/amphisbaena/format/DirectionWriterPinLaw" (some 0) with
  accessFlags := 49
  interfaces := #[]
  cf := some (fileOf pool1 33 #[] #[{ accessFlags := 1, nameIndex := 5, descriptorIndex := 6, attributes := #[] }, { accessFlags := 9, nameIndex := 37, descriptorIndex := 38, attributes := #[] }] 49 2 #[] #[])
  fields := #[]
  methods := #[k1m0, k1m1]
  instanceTypes := #[]
  staticTypes := #[]
  resolved := Array.replicate 42 none
  statics := none }

def pool2 : Array CpInfo := pool [(1, .class_ 2), (0, u "java/lang/constant/Constable"), (0, .class_ 4), (0, u "java/lang/Object")] 6

/-- java/lang/constant/Constable -/
def k2 : Class := { plain "java/lang/constant/Constable" (some 0) with
  accessFlags := 1537
  interfaces := #[]
  cf := some (fileOf pool2 1 #[] #[] 1537 3 #[] #[])
  fields := #[]
  methods := #[]
  instanceTypes := #[]
  staticTypes := #[]
  resolved := Array.replicate 11 none
  statics := none }

def pool3 : Array CpInfo := pool [(1, .class_ 2), (0, u "java/lang/Comparable"), (0, .class_ 4), (0, u "java/lang/Object")] 7

/-- java/lang/Comparable -/
def k3 : Class := { plain "java/lang/Comparable" (some 0) with
  accessFlags := 1537
  interfaces := #[]
  cf := some (fileOf pool3 1 #[] #[] 1537 3 #[] #[])
  fields := #[]
  methods := #[]
  instanceTypes := #[]
  staticTypes := #[]
  resolved := Array.replicate 12 none
  statics := none }

def pool4 : Array CpInfo := pool [(1, .class_ 2), (0, u "java/io/Serializable"), (0, .class_ 4), (0, u "java/lang/Object")] 2

/-- java/io/Serializable -/
def k4 : Class := { plain "java/io/Serializable" (some 0) with
  accessFlags := 1537
  interfaces := #[]
  cf := some (fileOf pool4 1 #[] #[] 1537 3 #[] #[])
  fields := #[]
  methods := #[]
  instanceTypes := #[]
  staticTypes := #[]
  resolved := Array.replicate 7 none
  statics := none }

def pool5 : Array CpInfo := pool [(2, .class_ 4), (1, u "java/lang/Enum"), (0, u "name"), (0, u "Ljava/lang/String;"), (2, u "ordinal"), (0, u "I"), (1, .class_ 14), (1, u "java/lang/Object"), (4, u "hash"), (86, .class_ 108), (1, u "java/lang/Enum$EnumDesc"), (2, .class_ 112), (0, u "java/lang/constant/Constable"), (0, .class_ 114), (0, u "java/lang/Comparable"), (0, .class_ 116), (0, u "java/io/Serializable")] 87

/-- java/lang/Enum -/
def k5 : Class := { plain "java/lang/Enum" (some 0) with
  accessFlags := 1057
  interfaces := #[2, 3, 4]
  cf := some (fileOf pool5 2 #[.nestMembers #[106]] #[] 1057 12 #[111, 113, 115] #[{ accessFlags := 18, nameIndex := 5, descriptorIndex := 6, attributes := #[] }, { accessFlags := 18, nameIndex := 9, descriptorIndex := 10, attributes := #[] }, { accessFlags := 2, nameIndex := 19, descriptorIndex := 10, attributes := #[] }])
  fields := #[{ name := "name", type := (.object "java/lang/String"), accessFlags := 18, slot := 0, constantValue := 0 }, { name := "ordinal", type := .int, accessFlags := 18, slot := 1, constantValue := 0 }, { name := "hash", type := .int, accessFlags := 2, slot := 2, constantValue := 0 }]
  methods := #[]
  instanceTypes := #[(.object "java/lang/String"), .int, .int]
  staticTypes := #[]
  resolved := Array.replicate 204 none
  statics := none }

def pool6 : Array CpInfo := pool [(1, .class_ 2), (0, u "com/example/amphisbaena/amphisbaena/format/Direction"), (0, .fieldref 1 4), (0, .nameAndType 5 6), (0, u "BACKWARD"), (0, u "Lcom/example/amphisbaena/amphisbaena/format/Direction;"), (2, u "FORWARD"), (2, u "$VALUES"), (0, u "[Lcom/example/amphisbaena/amphisbaena/format/Direction;"), (6, .class_ 22), (1, u "java/lang/Enum"), (20, u "reader"), (0, u "(Ljava/lang/Object;Ljava/lang/Object;)Ljava/lang/Object;"), (4, u "writer")] 4

def k6c0 : Code := { maxStack := 2, maxLocals := 3, code := prog_9_method_4_code, exceptionTable := #[], attributes := #[] }
def k6m0 : Method := { name := "reader", desc := "(Ljava/lang/Object;Ljava/lang/Object;)Ljava/lang/Object;", sig := { parameters := [(.object "java/lang/Object"), (.object "java/lang/Object")], returnType := some (.object "java/lang/Object") }, accessFlags := 1, code := some k6c0 }
def k6c1 : Code := { maxStack := 2, maxLocals := 3, code := prog_9_method_5_code, exceptionTable := #[], attributes := #[] }
def k6m1 : Method := { name := "writer", desc := "(Ljava/lang/Object;Ljava/lang/Object;)Ljava/lang/Object;", sig := { parameters := [(.object "java/lang/Object"), (.object "java/lang/Object")], returnType := some (.object "java/lang/Object") }, accessFlags := 1, code := some k6c1 }
/-- com/example/amphisbaena/amphisbaena/format/Direction -/
def k6 : Class := { plain "com/example/amphisbaena/amphisbaena/format/Direction" (some 5) with
  accessFlags := 16433
  interfaces := #[]
  cf := some (fileOf pool6 1 #[] #[{ accessFlags := 1, nameIndex := 43, descriptorIndex := 44, attributes := #[] }, { accessFlags := 1, nameIndex := 49, descriptorIndex := 44, attributes := #[] }] 16433 20 #[] #[{ accessFlags := 16409, nameIndex := 5, descriptorIndex := 6, attributes := #[] }, { accessFlags := 16409, nameIndex := 9, descriptorIndex := 6, attributes := #[] }, { accessFlags := 4122, nameIndex := 12, descriptorIndex := 13, attributes := #[] }])
  fields := #[{ name := "BACKWARD", type := (.object "com/example/amphisbaena/amphisbaena/format/Direction"), accessFlags := 16409, slot := 0, constantValue := 0 }, { name := "FORWARD", type := (.object "com/example/amphisbaena/amphisbaena/format/Direction"), accessFlags := 16409, slot := 1, constantValue := 0 }, { name := "$VALUES", type := (.array (.object "com/example/amphisbaena/amphisbaena/format/Direction")), accessFlags := 4122, slot := 2, constantValue := 0 }]
  methods := #[k6m0, k6m1]
  instanceTypes := #[(.object "java/lang/String"), .int, .int]
  staticTypes := #[(.object "com/example/amphisbaena/amphisbaena/format/Direction"), (.object "com/example/amphisbaena/amphisbaena/format/Direction"), (.array (.object "com/example/amphisbaena/amphisbaena/format/Direction"))]
  resolved := Array.replicate 54 none
  statics := some 0 }

def pool7 : Array CpInfo := pool [(1, .methodref 2 3), (0, .class_ 4), (0, .nameAndType 5 6), (0, u "java/lang/Object"), (0, u "<init>"), (0, u "()V"), (1, .class_ 10), (1, u "java/lang/Number"), (2, .class_ 14), (0, u "java/io/Serializable"), (0, u "serialVersionUID"), (0, u "J")] 20

def k7c0 : Code := { maxStack := 1, maxLocals := 1, code := jdk_18_method_1_code, exceptionTable := #[], attributes := #[] }
def k7m0 : Method := { name := "<init>", desc := "()V", sig := { parameters := [], returnType := none }, accessFlags := 1, code := some k7c0 }
/-- java/lang/Number -/
def k7 : Class := { plain "java/lang/Number" (some 0) with
  accessFlags := 1057
  interfaces := #[4]
  cf := some (fileOf pool7 8 #[] #[{ accessFlags := 1, nameIndex := 5, descriptorIndex := 6, attributes := #[] }] 1057 2 #[13] #[{ accessFlags := 26, nameIndex := 15, descriptorIndex := 16, attributes := #[] }])
  fields := #[{ name := "serialVersionUID", type := .long, accessFlags := 26, slot := 0, constantValue := 0 }]
  methods := #[k7m0]
  instanceTypes := #[]
  staticTypes := #[.long]
  resolved := Array.replicate 37 none
  statics := none }

def pool8 : Array CpInfo := pool [(1, .class_ 2), (0, u "java/lang/constant/ConstantDesc"), (0, .class_ 4), (0, u "java/lang/Object")] 32

/-- java/lang/constant/ConstantDesc -/
def k8 : Class := { plain "java/lang/constant/ConstantDesc" (some 0) with
  accessFlags := 1537
  interfaces := #[]
  cf := some (fileOf pool8 1 #[] #[] 1537 3 #[] #[])
  fields := #[]
  methods := #[]
  instanceTypes := #[]
  staticTypes := #[]
  resolved := Array.replicate 37 none
  statics := none }

def pool9 : Array CpInfo := pool [(1, .class_ 2), (0, u "java/lang/Integer"), (16, u "digits"), (0, u "[C"), (46, u "<init>"), (17, u "DigitOnes"), (0, u "[B"), (2, u "DigitTens"), (10, .nameAndType 67 101), (0, u "()V"), (19, u "()I"), (65, u "valueOf"), (0, u "(I)Ljava/lang/Integer;"), (0, .class_ 190), (0, u "java/lang/Integer$IntegerCache"), (0, .fieldref 189 192), (0, .nameAndType 193 194), (0, u "high"), (0, u "I"), (0, .fieldref 189 196), (0, .nameAndType 197 198), (0, u "cache"), (0, u "[Ljava/lang/Integer;"), (0, .methodref 1 200), (0, .nameAndType 67 201), (0, u "(I)V"), (0, .methodref 203 100), (0, .class_ 204), (0, u "java/lang/Number"), (0, .fieldref 1 206), (0, .nameAndType 207 194), (0, u "value"), (5, u "intValue"), (88, u "TYPE"), (0, u "Ljava/lang/Class;"), (0, .class_ 305), (0, u "java/lang/Comparable"), (0, .class_ 307), (0, u "java/lang/constant/Constable"), (0, .class_ 309), (0, u "java/lang/constant/ConstantDesc"), (0, u "MIN_VALUE"), (1, u "MAX_VALUE"), (3, u "SIZE"), (1, u "BYTES"), (1, u "serialVersionUID"), (0, u "J")] 131

def k9c0 : Code := { maxStack := 3, maxLocals := 1, code := jdk_33_method_22_code, exceptionTable := #[], attributes := #[] }
def k9m0 : Method := { name := "valueOf", desc := "(I)Ljava/lang/Integer;", sig := { parameters := [.int], returnType := some (.object "java/lang/Integer") }, accessFlags := 9, code := some k9c0 }
def k9c1 : Code := { maxStack := 2, maxLocals := 2, code := jdk_33_method_23_code, exceptionTable := #[], attributes := #[] }
def k9m1 : Method := { name := "<init>", desc := "(I)V", sig := { parameters := [.int], returnType := none }, accessFlags := 1, code := some k9c1 }
def k9c2 : Code := { maxStack := 1, maxLocals := 1, code := jdk_33_method_27_code, exceptionTable := #[], attributes := #[] }
def k9m2 : Method := { name := "intValue", desc := "()I", sig := { parameters := [], returnType := some .int }, accessFlags := 1, code := some k9c2 }
/-- java/lang/Integer -/
def k9 : Class := { plain "java/lang/Integer" (some 7) with
  accessFlags := 49
  interfaces := #[3, 2, 8]
  cf := some (fileOf pool9 1 #[.nestMembers #[189]] #[{ accessFlags := 9, nameIndex := 187, descriptorIndex := 188, attributes := #[] }, { accessFlags := 1, nameIndex := 67, descriptorIndex := 201, attributes := #[] }, { accessFlags := 1, nameIndex := 213, descriptorIndex := 121, attributes := #[] }] 49 203 #[304, 306, 308] #[{ accessFlags := 25, nameIndex := 310, descriptorIndex := 194, attributes := #[] }, { accessFlags := 25, nameIndex := 312, descriptorIndex := 194, attributes := #[] }, { accessFlags := 25, nameIndex := 302, descriptorIndex := 303, attributes := #[] }, { accessFlags := 24, nameIndex := 19, descriptorIndex := 20, attributes := #[] }, { accessFlags := 24, nameIndex := 89, descriptorIndex := 86, attributes := #[] }, { accessFlags := 24, nameIndex := 85, descriptorIndex := 86, attributes := #[] }, { accessFlags := 18, nameIndex := 207, descriptorIndex := 194, attributes := #[] }, { accessFlags := 25, nameIndex := 316, descriptorIndex := 194, attributes := #[] }, { accessFlags := 25, nameIndex := 318, descriptorIndex := 194, attributes := #[] }, { accessFlags := 26, nameIndex := 320, descriptorIndex := 321, attributes := #[] }])
  fields := #[{ name := "MIN_VALUE", type := .int, accessFlags := 25, slot := 0, constantValue := 0 }, { name := "MAX_VALUE", type := .int, accessFlags := 25, slot := 1, constantValue := 0 }, { name := "TYPE", type := (.object "java/lang/Class"), accessFlags := 25, slot := 2, constantValue := 0 }, { name := "digits", type := (.array .char), accessFlags := 24, slot := 3, constantValue := 0 }, { name := "DigitTens", type := (.array .byte), accessFlags := 24, slot := 4, constantValue := 0 }, { name := "DigitOnes", type := (.array .byte), accessFlags := 24, slot := 5, constantValue := 0 }, { name := "value", type := .int, accessFlags := 18, slot := 0, constantValue := 0 }, { name := "SIZE", type := .int, accessFlags := 25, slot := 6, constantValue := 0 }, { name := "BYTES", type := .int, accessFlags := 25, slot := 7, constantValue := 0 }, { name := "serialVersionUID", type := .long, accessFlags := 26, slot := 8, constantValue := 0 }]
  methods := #[k9m0, k9m1, k9m2]
  instanceTypes := #[.int]
  staticTypes := #[.int, .int, (.object "java/lang/Class"), (.array .char), (.array .byte), (.array .byte), .int, .int, .long]
  resolved := Array.replicate 453 none
  statics := none }

def pool10 : Array CpInfo := pool [(2, .class_ 4), (1, u "java/lang/Object"), (0, u "<init>"), (0, u "()V"), (0, .class_ 8), (0, u "java/lang/Integer"), (7, .class_ 18), (1, u "java/lang/Integer$IntegerCache"), (0, u "$assertionsDisabled"), (0, u "Z"), (26, u "high"), (0, u "I"), (8, u "archivedCache"), (0, u "[Ljava/lang/Integer;"), (12, u "cache"), (0, u "low")] 27

def k10m0 : Method := { name := "<init>", desc := "()V", sig := { parameters := [], returnType := none }, accessFlags := 2, code := none }
/-- java/lang/Integer$IntegerCache -/
def k10 : Class := { plain "java/lang/Integer$IntegerCache" (some 0) with
  accessFlags := 48
  interfaces := #[]
  cf := some (fileOf pool10 16 #[.nestHost 7] #[{ accessFlags := 2, nameIndex := 5, descriptorIndex := 6, attributes := #[] }] 48 2 #[] #[{ accessFlags := 24, nameIndex := 72, descriptorIndex := 48, attributes := #[] }, { accessFlags := 24, nameIndex := 47, descriptorIndex := 48, attributes := #[] }, { accessFlags := 24, nameIndex := 71, descriptorIndex := 58, attributes := #[] }, { accessFlags := 8, nameIndex := 57, descriptorIndex := 58, attributes := #[] }, { accessFlags := 4120, nameIndex := 19, descriptorIndex := 20, attributes := #[] }])
  fields := #[{ name := "low", type := .int, accessFlags := 24, slot := 0, constantValue := 0 }, { name := "high", type := .int, accessFlags := 24, slot := 1, constantValue := 0 }, { name := "cache", type := (.array (.object "java/lang/Integer")), accessFlags := 24, slot := 2, constantValue := 0 }, { name := "archivedCache", type := (.array (.object "java/lang/Integer")), accessFlags := 8, slot := 3, constantValue := 0 }, { name := "$assertionsDisabled", type := .boolean, accessFlags := 4120, slot := 4, constantValue := 0 }]
  methods := #[k10m0]
  instanceTypes := #[]
  staticTypes := #[.int, .int, (.array (.object "java/lang/Integer")), (.array (.object "java/lang/Integer")), .boolean]
  resolved := Array.replicate 100 none
  statics := some 1 }

def pool11 : Array CpInfo := pool [(1, u "java/lang/Cloneable"), (0, .class_ 1), (0, u "java/lang/Object"), (0, .class_ 3)] 3

/-- java/lang/Cloneable -/
def k11 : Class := { plain "java/lang/Cloneable" (some 0) with
  accessFlags := 1537
  interfaces := #[]
  cf := some (fileOf pool11 2 #[] #[] 1537 4 #[] #[])
  fields := #[]
  methods := #[]
  instanceTypes := #[]
  staticTypes := #[]
  resolved := Array.replicate 8 none
  statics := none }

/-- the primitive byte -/
def k12 : Class := { plain "byte" none with kind := .primitive 'B', accessFlags := 0x411 }
/-- [B -/
def k13 : Class := { plain "[B" (some 0) with kind := .array 12 .byte, interfaces := #[11, 4], accessFlags := 1041 }

/-- the primitive int -/
def k14 : Class := { plain "int" none with kind := .primitive 'I', accessFlags := 0x411 }
/-- [I -/
def k15 : Class := { plain "[I" (some 0) with kind := .array 14 .int, interfaces := #[11, 4], accessFlags := 1041 }

/-- [Ljava/lang/Integer; -/
def k16 : Class := { plain "[Ljava/lang/Integer;" (some 0) with kind := .array 9 (.object "java/lang/Integer"), interfaces := #[11, 4], accessFlags := 1041 }

def heap : Heap := #[{ cls := 6, slots := #[.ref 3, .ref 4, .null], vm := .statics 6 },
  { cls := 10, slots := #[.int 0, .int 127, .ref 2, .null, .int 0], vm := .statics 10 },
  { cls := 16, slots := #[.ref 5, .ref 6, .ref 7, .ref 8, .ref 9, .ref 10, .ref 11, .ref 12, .ref 13, .ref 14, .ref 15, .ref 16, .ref 17, .ref 18, .ref 19, .ref 20, .ref 21, .ref 22, .ref 23, .ref 24, .ref 25, .ref 26, .ref 27, .ref 28, .ref 29, .ref 30, .ref 31, .ref 32, .ref 33, .ref 34, .ref 35, .ref 36, .ref 37, .ref 38, .ref 39, .ref 40, .ref 41, .ref 42, .ref 43, .ref 44, .ref 45, .ref 46, .ref 47, .ref 48, .ref 49, .ref 50, .ref 51, .ref 52, .ref 53, .ref 54, .ref 55, .ref 56, .ref 57, .ref 58, .ref 59, .ref 60, .ref 61, .ref 62, .ref 63, .ref 64, .ref 65, .ref 66, .ref 67, .ref 68, .ref 69, .ref 70, .ref 71, .ref 72, .ref 73, .ref 74, .ref 75, .ref 76, .ref 77, .ref 78, .ref 79, .ref 80, .ref 81, .ref 82, .ref 83, .ref 84, .ref 85, .ref 86, .ref 87, .ref 88, .ref 89, .ref 90, .ref 91, .ref 92, .ref 93, .ref 94, .ref 95, .ref 96, .ref 97, .ref 98, .ref 99, .ref 100, .ref 101, .ref 102, .ref 103, .ref 104, .ref 105, .ref 106, .ref 107, .ref 108, .ref 109, .ref 110, .ref 111, .ref 112, .ref 113, .ref 114, .ref 115, .ref 116, .ref 117, .ref 118, .ref 119, .ref 120, .ref 121, .ref 122, .ref 123, .ref 124, .ref 125, .ref 126, .ref 127, .ref 128, .ref 129, .ref 130, .ref 131, .ref 132, .ref 133, .ref 134, .ref 135, .ref 136, .ref 137, .ref 138, .ref 139, .ref 140, .ref 141, .ref 142, .ref 143, .ref 144, .ref 145, .ref 146, .ref 147, .ref 148, .ref 149, .ref 150, .ref 151, .ref 152, .ref 153, .ref 154, .ref 155, .ref 156, .ref 157, .ref 158, .ref 159, .ref 160, .ref 161, .ref 162, .ref 163, .ref 164, .ref 165, .ref 166, .ref 167, .ref 168, .ref 169, .ref 170, .ref 171, .ref 172, .ref 173, .ref 174, .ref 175, .ref 176, .ref 177, .ref 178, .ref 179, .ref 180, .ref 181, .ref 182, .ref 183, .ref 184, .ref 185, .ref 186, .ref 187, .ref 188, .ref 189, .ref 190, .ref 191, .ref 192, .ref 193, .ref 194, .ref 195, .ref 196, .ref 197, .ref 198, .ref 199, .ref 200, .ref 201, .ref 202, .ref 203, .ref 204, .ref 205, .ref 206, .ref 207, .ref 208, .ref 209, .ref 210, .ref 211, .ref 212, .ref 213, .ref 214, .ref 215, .ref 216, .ref 217, .ref 218, .ref 219, .ref 220, .ref 221, .ref 222, .ref 223, .ref 224, .ref 225, .ref 226, .ref 227, .ref 228, .ref 229, .ref 230, .ref 231, .ref 232, .ref 233, .ref 234, .ref 235, .ref 236, .ref 237, .ref 238, .ref 239, .ref 240, .ref 241, .ref 242, .ref 243, .ref 244, .ref 245, .ref 246, .ref 247, .ref 248, .ref 249, .ref 250, .ref 251, .ref 252, .ref 253, .ref 254, .ref 255, .ref 256, .ref 257, .ref 258, .ref 259, .ref 260], vm := .none },
  { cls := 6, slots := #[.null, .int 0, .int 0], vm := .none },
  { cls := 6, slots := #[.null, .int 1, .int 0], vm := .none },
  { cls := 9, slots := #[.int (-128)], vm := .none },
  { cls := 9, slots := #[.int (-127)], vm := .none },
  { cls := 9, slots := #[.int (-126)], vm := .none },
  { cls := 9, slots := #[.int (-125)], vm := .none },
  { cls := 9, slots := #[.int (-124)], vm := .none },
  { cls := 9, slots := #[.int (-123)], vm := .none },
  { cls := 9, slots := #[.int (-122)], vm := .none },
  { cls := 9, slots := #[.int (-121)], vm := .none },
  { cls := 9, slots := #[.int (-120)], vm := .none },
  { cls := 9, slots := #[.int (-119)], vm := .none },
  { cls := 9, slots := #[.int (-118)], vm := .none },
  { cls := 9, slots := #[.int (-117)], vm := .none },
  { cls := 9, slots := #[.int (-116)], vm := .none },
  { cls := 9, slots := #[.int (-115)], vm := .none },
  { cls := 9, slots := #[.int (-114)], vm := .none },
  { cls := 9, slots := #[.int (-113)], vm := .none },
  { cls := 9, slots := #[.int (-112)], vm := .none },
  { cls := 9, slots := #[.int (-111)], vm := .none },
  { cls := 9, slots := #[.int (-110)], vm := .none },
  { cls := 9, slots := #[.int (-109)], vm := .none },
  { cls := 9, slots := #[.int (-108)], vm := .none },
  { cls := 9, slots := #[.int (-107)], vm := .none },
  { cls := 9, slots := #[.int (-106)], vm := .none },
  { cls := 9, slots := #[.int (-105)], vm := .none },
  { cls := 9, slots := #[.int (-104)], vm := .none },
  { cls := 9, slots := #[.int (-103)], vm := .none },
  { cls := 9, slots := #[.int (-102)], vm := .none },
  { cls := 9, slots := #[.int (-101)], vm := .none },
  { cls := 9, slots := #[.int (-100)], vm := .none },
  { cls := 9, slots := #[.int (-99)], vm := .none },
  { cls := 9, slots := #[.int (-98)], vm := .none },
  { cls := 9, slots := #[.int (-97)], vm := .none },
  { cls := 9, slots := #[.int (-96)], vm := .none },
  { cls := 9, slots := #[.int (-95)], vm := .none },
  { cls := 9, slots := #[.int (-94)], vm := .none },
  { cls := 9, slots := #[.int (-93)], vm := .none },
  { cls := 9, slots := #[.int (-92)], vm := .none },
  { cls := 9, slots := #[.int (-91)], vm := .none },
  { cls := 9, slots := #[.int (-90)], vm := .none },
  { cls := 9, slots := #[.int (-89)], vm := .none },
  { cls := 9, slots := #[.int (-88)], vm := .none },
  { cls := 9, slots := #[.int (-87)], vm := .none },
  { cls := 9, slots := #[.int (-86)], vm := .none },
  { cls := 9, slots := #[.int (-85)], vm := .none },
  { cls := 9, slots := #[.int (-84)], vm := .none },
  { cls := 9, slots := #[.int (-83)], vm := .none },
  { cls := 9, slots := #[.int (-82)], vm := .none },
  { cls := 9, slots := #[.int (-81)], vm := .none },
  { cls := 9, slots := #[.int (-80)], vm := .none },
  { cls := 9, slots := #[.int (-79)], vm := .none },
  { cls := 9, slots := #[.int (-78)], vm := .none },
  { cls := 9, slots := #[.int (-77)], vm := .none },
  { cls := 9, slots := #[.int (-76)], vm := .none },
  { cls := 9, slots := #[.int (-75)], vm := .none },
  { cls := 9, slots := #[.int (-74)], vm := .none },
  { cls := 9, slots := #[.int (-73)], vm := .none },
  { cls := 9, slots := #[.int (-72)], vm := .none },
  { cls := 9, slots := #[.int (-71)], vm := .none },
  { cls := 9, slots := #[.int (-70)], vm := .none },
  { cls := 9, slots := #[.int (-69)], vm := .none },
  { cls := 9, slots := #[.int (-68)], vm := .none },
  { cls := 9, slots := #[.int (-67)], vm := .none },
  { cls := 9, slots := #[.int (-66)], vm := .none },
  { cls := 9, slots := #[.int (-65)], vm := .none },
  { cls := 9, slots := #[.int (-64)], vm := .none },
  { cls := 9, slots := #[.int (-63)], vm := .none },
  { cls := 9, slots := #[.int (-62)], vm := .none },
  { cls := 9, slots := #[.int (-61)], vm := .none },
  { cls := 9, slots := #[.int (-60)], vm := .none },
  { cls := 9, slots := #[.int (-59)], vm := .none },
  { cls := 9, slots := #[.int (-58)], vm := .none },
  { cls := 9, slots := #[.int (-57)], vm := .none },
  { cls := 9, slots := #[.int (-56)], vm := .none },
  { cls := 9, slots := #[.int (-55)], vm := .none },
  { cls := 9, slots := #[.int (-54)], vm := .none },
  { cls := 9, slots := #[.int (-53)], vm := .none },
  { cls := 9, slots := #[.int (-52)], vm := .none },
  { cls := 9, slots := #[.int (-51)], vm := .none },
  { cls := 9, slots := #[.int (-50)], vm := .none },
  { cls := 9, slots := #[.int (-49)], vm := .none },
  { cls := 9, slots := #[.int (-48)], vm := .none },
  { cls := 9, slots := #[.int (-47)], vm := .none },
  { cls := 9, slots := #[.int (-46)], vm := .none },
  { cls := 9, slots := #[.int (-45)], vm := .none },
  { cls := 9, slots := #[.int (-44)], vm := .none },
  { cls := 9, slots := #[.int (-43)], vm := .none },
  { cls := 9, slots := #[.int (-42)], vm := .none },
  { cls := 9, slots := #[.int (-41)], vm := .none },
  { cls := 9, slots := #[.int (-40)], vm := .none },
  { cls := 9, slots := #[.int (-39)], vm := .none },
  { cls := 9, slots := #[.int (-38)], vm := .none },
  { cls := 9, slots := #[.int (-37)], vm := .none },
  { cls := 9, slots := #[.int (-36)], vm := .none },
  { cls := 9, slots := #[.int (-35)], vm := .none },
  { cls := 9, slots := #[.int (-34)], vm := .none },
  { cls := 9, slots := #[.int (-33)], vm := .none },
  { cls := 9, slots := #[.int (-32)], vm := .none },
  { cls := 9, slots := #[.int (-31)], vm := .none },
  { cls := 9, slots := #[.int (-30)], vm := .none },
  { cls := 9, slots := #[.int (-29)], vm := .none },
  { cls := 9, slots := #[.int (-28)], vm := .none },
  { cls := 9, slots := #[.int (-27)], vm := .none },
  { cls := 9, slots := #[.int (-26)], vm := .none },
  { cls := 9, slots := #[.int (-25)], vm := .none },
  { cls := 9, slots := #[.int (-24)], vm := .none },
  { cls := 9, slots := #[.int (-23)], vm := .none },
  { cls := 9, slots := #[.int (-22)], vm := .none },
  { cls := 9, slots := #[.int (-21)], vm := .none },
  { cls := 9, slots := #[.int (-20)], vm := .none },
  { cls := 9, slots := #[.int (-19)], vm := .none },
  { cls := 9, slots := #[.int (-18)], vm := .none },
  { cls := 9, slots := #[.int (-17)], vm := .none },
  { cls := 9, slots := #[.int (-16)], vm := .none },
  { cls := 9, slots := #[.int (-15)], vm := .none },
  { cls := 9, slots := #[.int (-14)], vm := .none },
  { cls := 9, slots := #[.int (-13)], vm := .none },
  { cls := 9, slots := #[.int (-12)], vm := .none },
  { cls := 9, slots := #[.int (-11)], vm := .none },
  { cls := 9, slots := #[.int (-10)], vm := .none },
  { cls := 9, slots := #[.int (-9)], vm := .none },
  { cls := 9, slots := #[.int (-8)], vm := .none },
  { cls := 9, slots := #[.int (-7)], vm := .none },
  { cls := 9, slots := #[.int (-6)], vm := .none },
  { cls := 9, slots := #[.int (-5)], vm := .none },
  { cls := 9, slots := #[.int (-4)], vm := .none },
  { cls := 9, slots := #[.int (-3)], vm := .none },
  { cls := 9, slots := #[.int (-2)], vm := .none },
  { cls := 9, slots := #[.int (-1)], vm := .none },
  { cls := 9, slots := #[.int (0)], vm := .none },
  { cls := 9, slots := #[.int (1)], vm := .none },
  { cls := 9, slots := #[.int (2)], vm := .none },
  { cls := 9, slots := #[.int (3)], vm := .none },
  { cls := 9, slots := #[.int (4)], vm := .none },
  { cls := 9, slots := #[.int (5)], vm := .none },
  { cls := 9, slots := #[.int (6)], vm := .none },
  { cls := 9, slots := #[.int (7)], vm := .none },
  { cls := 9, slots := #[.int (8)], vm := .none },
  { cls := 9, slots := #[.int (9)], vm := .none },
  { cls := 9, slots := #[.int (10)], vm := .none },
  { cls := 9, slots := #[.int (11)], vm := .none },
  { cls := 9, slots := #[.int (12)], vm := .none },
  { cls := 9, slots := #[.int (13)], vm := .none },
  { cls := 9, slots := #[.int (14)], vm := .none },
  { cls := 9, slots := #[.int (15)], vm := .none },
  { cls := 9, slots := #[.int (16)], vm := .none },
  { cls := 9, slots := #[.int (17)], vm := .none },
  { cls := 9, slots := #[.int (18)], vm := .none },
  { cls := 9, slots := #[.int (19)], vm := .none },
  { cls := 9, slots := #[.int (20)], vm := .none },
  { cls := 9, slots := #[.int (21)], vm := .none },
  { cls := 9, slots := #[.int (22)], vm := .none },
  { cls := 9, slots := #[.int (23)], vm := .none },
  { cls := 9, slots := #[.int (24)], vm := .none },
  { cls := 9, slots := #[.int (25)], vm := .none },
  { cls := 9, slots := #[.int (26)], vm := .none },
  { cls := 9, slots := #[.int (27)], vm := .none },
  { cls := 9, slots := #[.int (28)], vm := .none },
  { cls := 9, slots := #[.int (29)], vm := .none },
  { cls := 9, slots := #[.int (30)], vm := .none },
  { cls := 9, slots := #[.int (31)], vm := .none },
  { cls := 9, slots := #[.int (32)], vm := .none },
  { cls := 9, slots := #[.int (33)], vm := .none },
  { cls := 9, slots := #[.int (34)], vm := .none },
  { cls := 9, slots := #[.int (35)], vm := .none },
  { cls := 9, slots := #[.int (36)], vm := .none },
  { cls := 9, slots := #[.int (37)], vm := .none },
  { cls := 9, slots := #[.int (38)], vm := .none },
  { cls := 9, slots := #[.int (39)], vm := .none },
  { cls := 9, slots := #[.int (40)], vm := .none },
  { cls := 9, slots := #[.int (41)], vm := .none },
  { cls := 9, slots := #[.int (42)], vm := .none },
  { cls := 9, slots := #[.int (43)], vm := .none },
  { cls := 9, slots := #[.int (44)], vm := .none },
  { cls := 9, slots := #[.int (45)], vm := .none },
  { cls := 9, slots := #[.int (46)], vm := .none },
  { cls := 9, slots := #[.int (47)], vm := .none },
  { cls := 9, slots := #[.int (48)], vm := .none },
  { cls := 9, slots := #[.int (49)], vm := .none },
  { cls := 9, slots := #[.int (50)], vm := .none },
  { cls := 9, slots := #[.int (51)], vm := .none },
  { cls := 9, slots := #[.int (52)], vm := .none },
  { cls := 9, slots := #[.int (53)], vm := .none },
  { cls := 9, slots := #[.int (54)], vm := .none },
  { cls := 9, slots := #[.int (55)], vm := .none },
  { cls := 9, slots := #[.int (56)], vm := .none },
  { cls := 9, slots := #[.int (57)], vm := .none },
  { cls := 9, slots := #[.int (58)], vm := .none },
  { cls := 9, slots := #[.int (59)], vm := .none },
  { cls := 9, slots := #[.int (60)], vm := .none },
  { cls := 9, slots := #[.int (61)], vm := .none },
  { cls := 9, slots := #[.int (62)], vm := .none },
  { cls := 9, slots := #[.int (63)], vm := .none },
  { cls := 9, slots := #[.int (64)], vm := .none },
  { cls := 9, slots := #[.int (65)], vm := .none },
  { cls := 9, slots := #[.int (66)], vm := .none },
  { cls := 9, slots := #[.int (67)], vm := .none },
  { cls := 9, slots := #[.int (68)], vm := .none },
  { cls := 9, slots := #[.int (69)], vm := .none },
  { cls := 9, slots := #[.int (70)], vm := .none },
  { cls := 9, slots := #[.int (71)], vm := .none },
  { cls := 9, slots := #[.int (72)], vm := .none },
  { cls := 9, slots := #[.int (73)], vm := .none },
  { cls := 9, slots := #[.int (74)], vm := .none },
  { cls := 9, slots := #[.int (75)], vm := .none },
  { cls := 9, slots := #[.int (76)], vm := .none },
  { cls := 9, slots := #[.int (77)], vm := .none },
  { cls := 9, slots := #[.int (78)], vm := .none },
  { cls := 9, slots := #[.int (79)], vm := .none },
  { cls := 9, slots := #[.int (80)], vm := .none },
  { cls := 9, slots := #[.int (81)], vm := .none },
  { cls := 9, slots := #[.int (82)], vm := .none },
  { cls := 9, slots := #[.int (83)], vm := .none },
  { cls := 9, slots := #[.int (84)], vm := .none },
  { cls := 9, slots := #[.int (85)], vm := .none },
  { cls := 9, slots := #[.int (86)], vm := .none },
  { cls := 9, slots := #[.int (87)], vm := .none },
  { cls := 9, slots := #[.int (88)], vm := .none },
  { cls := 9, slots := #[.int (89)], vm := .none },
  { cls := 9, slots := #[.int (90)], vm := .none },
  { cls := 9, slots := #[.int (91)], vm := .none },
  { cls := 9, slots := #[.int (92)], vm := .none },
  { cls := 9, slots := #[.int (93)], vm := .none },
  { cls := 9, slots := #[.int (94)], vm := .none },
  { cls := 9, slots := #[.int (95)], vm := .none },
  { cls := 9, slots := #[.int (96)], vm := .none },
  { cls := 9, slots := #[.int (97)], vm := .none },
  { cls := 9, slots := #[.int (98)], vm := .none },
  { cls := 9, slots := #[.int (99)], vm := .none },
  { cls := 9, slots := #[.int (100)], vm := .none },
  { cls := 9, slots := #[.int (101)], vm := .none },
  { cls := 9, slots := #[.int (102)], vm := .none },
  { cls := 9, slots := #[.int (103)], vm := .none },
  { cls := 9, slots := #[.int (104)], vm := .none },
  { cls := 9, slots := #[.int (105)], vm := .none },
  { cls := 9, slots := #[.int (106)], vm := .none },
  { cls := 9, slots := #[.int (107)], vm := .none },
  { cls := 9, slots := #[.int (108)], vm := .none },
  { cls := 9, slots := #[.int (109)], vm := .none },
  { cls := 9, slots := #[.int (110)], vm := .none },
  { cls := 9, slots := #[.int (111)], vm := .none },
  { cls := 9, slots := #[.int (112)], vm := .none },
  { cls := 9, slots := #[.int (113)], vm := .none },
  { cls := 9, slots := #[.int (114)], vm := .none },
  { cls := 9, slots := #[.int (115)], vm := .none },
  { cls := 9, slots := #[.int (116)], vm := .none },
  { cls := 9, slots := #[.int (117)], vm := .none },
  { cls := 9, slots := #[.int (118)], vm := .none },
  { cls := 9, slots := #[.int (119)], vm := .none },
  { cls := 9, slots := #[.int (120)], vm := .none },
  { cls := 9, slots := #[.int (121)], vm := .none },
  { cls := 9, slots := #[.int (122)], vm := .none },
  { cls := 9, slots := #[.int (123)], vm := .none },
  { cls := 9, slots := #[.int (124)], vm := .none },
  { cls := 9, slots := #[.int (125)], vm := .none },
  { cls := 9, slots := #[.int (126)], vm := .none },
  { cls := 9, slots := #[.int (127)], vm := .none }]
def classes : Array Class := #[k0, k1, k2, k3, k4, k5, k6, k7, k8, k9, k10, k11, k12, k13, k14, k15, k16]
def interned : List (Array UInt16 × Addr) := []
def slotsUsed : Nat := 526
def theMethod : MethodId := ⟨1, 1⟩
def args0 : Array Value := #[.int 1, .int 6, .int 7]
def aboutOver (below : List Frame) : State where
  vm := { classes := classes, interned := interned.toArray }
  heap := heap
  slotsUsed := slotsUsed
  threads := #[{ frames := .invoking theMethod args0 :: below }]
def below0 : List Frame := [.native { method := ⟨0, 0⟩, args := #[] }]
def about1 : State := aboutOver below0
def p0 : Program := .bare "" "" ""
def e0 : Env := launch0.env 0 0 0
theorem w_frames : about1.frames = Frame.invoking theMethod args0 :: below0 := rfl
set_option maxRecDepth 65536 in
theorem w_args : argsFit about1.vm theMethod args0 = true := by decide +kernel
set_option maxRecDepth 65536 in
theorem w_heap : heapFits about1 = true := by decide +kernel
set_option maxRecDepth 65536 in
theorem w_runnable : about1.curStatus? = some .runnable := by decide +kernel
set_option maxRecDepth 65536 in
theorem w_alone : about1.alone = true := by decide +kernel
set_option maxRecDepth 65536 in
theorem w_named : about1.methodNamed? x = some theMethod := by decide +kernel
set_option maxRecDepth 65536 in
theorem w_hears : about1.hears theMethod below0 = true := by decide +kernel
set_option maxRecDepth 65536 in
theorem w_ripe : about1.ripe theMethod args0 below0 = true := by decide +kernel
theorem w_running : about1.status = .running := rfl
set_option maxRecDepth 65536 in
theorem w_room : about1.hasRoom e0.platform room_1 = true :=
  launch0.hasRoom_least _ room_1 (by decide +kernel) (by decide +kernel) (by decide +kernel) (by decide +kernel) (by decide +kernel) (by decide +kernel)
theorem allAtoms_all (ts : List Jvm.Cond) (a : Array Jvm.Value) (st : Jvm.State) : (allAtoms ts).before a st = ts.all (fun c => c.before a st) := by
  induction ts with
  | nil => rfl
  | cons c t ih =>
    show (Jvm.Cond.and c (allAtoms t)).before a st = _
    rw [Jvm.Cond.before_and, ih, List.all_cons]
def words1 : List Jvm.Cond := Jvm.Cond.code x code maxLocals ret :: tables_1
/-- a 'code' word, met by the world's own term for the bytes: nothing is compared byte by byte -/
theorem code_word {y : MethodName} {bytes : ByteArray} {mx : Nat} {rt : Option FieldType} {a : Array Value} {s : State} {m : MethodId} {meth : Method} {c : Code} (h1 : s.methodNamed? y = some m) (h2 : s.vm.method? m = some meth) (h3 : meth.code = some c) (h4 : c.code = bytes)
    (h5 : (c.maxLocals == mx && c.exceptionTable.isEmpty && decide (c.maxStack ≤ mostOperands) && decide (meth.sig.returnType = rt) && !meth.locks && decide (parseMethodDescriptor y.desc = some meth.sig)) = true) : (Jvm.Cond.code y bytes mx rt).before a s = true := by
  simp only [Bool.and_eq_true, beq_iff_eq, Bool.not_eq_true', decide_eq_true_eq] at h5
  obtain ⟨⟨⟨⟨⟨g1, g2⟩, g3⟩, g4⟩, g5⟩, g6⟩ := h5
  simp [Cond.before, Cond.holds, Cond.value, h1, h2, h3, h4, g1, g2, g3, g4, g5, g6]
def isCode : Jvm.Cond → Bool
  | .code _ _ _ _ => true
  | _ => false
theorem all_split {L : List Jvm.Cond} {P : Jvm.Cond → Bool} (h1 : L.all (fun c => isCode c || P c) = true) (h2 : ∀ c ∈ L.filter isCode, P c = true) : L.all P = true := by
  refine List.all_eq_true.mpr fun c hc => ?_
  have h := List.all_eq_true.mp h1 c hc
  rcases Bool.eq_false_or_eq_true (isCode c) with hi | hi
  · exact h2 c (List.mem_filter.mpr ⟨hc, hi⟩)
  · simpa [hi] using h
set_option maxRecDepth 65536 in
theorem w_c0 : (Jvm.Cond.code x code maxLocals ret).before args0 about1 = true := code_word (m := ⟨1, 1⟩) (meth := k1m1) (c := k1c1) (by decide +kernel) rfl rfl rfl (by decide +kernel)
set_option maxRecDepth 65536 in
theorem w_c1 : (Jvm.Cond.code ({ cls := "java/lang/Integer", name := "valueOf", desc := "(I)Ljava/lang/Integer;" } : Jvm.MethodName) jdk_33_method_22_code (1 : Nat) (Option.some (Jvm.ClassFile.FieldType.object "java/lang/Integer"))).before args0 about1 = true := code_word (m := ⟨9, 0⟩) (meth := k9m0) (c := k9c0) (by decide +kernel) rfl rfl rfl (by decide +kernel)
set_option maxRecDepth 65536 in
theorem w_c2 : (Jvm.Cond.code ({ cls := "com/example/amphisbaena/amphisbaena/format/Direction", name := "writer", desc := "(Ljava/lang/Object;Ljava/lang/Object;)Ljava/lang/Object;" } : Jvm.MethodName) prog_9_method_5_code (3 : Nat) (Option.some (Jvm.ClassFile.FieldType.object "java/lang/Object"))).before args0 about1 = true := code_word (m := ⟨6, 1⟩) (meth := k6m1) (c := k6c1) (by decide +kernel) rfl rfl rfl (by decide +kernel)
set_option maxRecDepth 65536 in
theorem w_c3 : (Jvm.Cond.code ({ cls := "com/example/amphisbaena/amphisbaena/format/Direction", name := "reader", desc := "(Ljava/lang/Object;Ljava/lang/Object;)Ljava/lang/Object;" } : Jvm.MethodName) prog_9_method_4_code (3 : Nat) (Option.some (Jvm.ClassFile.FieldType.object "java/lang/Object"))).before args0 about1 = true := code_word (m := ⟨6, 0⟩) (meth := k6m0) (c := k6c0) (by decide +kernel) rfl rfl rfl (by decide +kernel)
set_option maxRecDepth 65536 in
theorem w_c4 : (Jvm.Cond.code ({ cls := "java/lang/Integer", name := "intValue", desc := "()I" } : Jvm.MethodName) jdk_33_method_27_code (1 : Nat) (Option.some Jvm.ClassFile.FieldType.int)).before args0 about1 = true := code_word (m := ⟨9, 2⟩) (meth := k9m2) (c := k9c2) (by decide +kernel) rfl rfl rfl (by decide +kernel)
set_option maxRecDepth 65536 in
theorem w_c5 : (Jvm.Cond.code ({ cls := "java/lang/Integer", name := "<init>", desc := "(I)V" } : Jvm.MethodName) jdk_33_method_23_code (2 : Nat) (Option.none : Option Jvm.ClassFile.FieldType)).before args0 about1 = true := code_word (m := ⟨9, 1⟩) (meth := k9m1) (c := k9c1) (by decide +kernel) rfl rfl rfl (by decide +kernel)
set_option maxRecDepth 65536 in
theorem w_c6 : (Jvm.Cond.code ({ cls := "java/lang/Number", name := "<init>", desc := "()V" } : Jvm.MethodName) jdk_18_method_1_code (1 : Nat) (Option.none : Option Jvm.ClassFile.FieldType)).before args0 about1 = true := code_word (m := ⟨7, 0⟩) (meth := k7m0) (c := k7c0) (by decide +kernel) rfl rfl rfl (by decide +kernel)
set_option maxRecDepth 65536 in
theorem w_c7 : (Jvm.Cond.code ({ cls := "java/lang/Object", name := "<init>", desc := "()V" } : Jvm.MethodName) object_method_1_code (1 : Nat) (Option.none : Option Jvm.ClassFile.FieldType)).before args0 about1 = true := code_word (m := ⟨0, 0⟩) (meth := k0m0) (c := k0c0) (by decide +kernel) rfl rfl rfl (by decide +kernel)
def codes1 : List Jvm.Cond := [Jvm.Cond.code x code maxLocals ret, Jvm.Cond.code ({ cls := "java/lang/Integer", name := "valueOf", desc := "(I)Ljava/lang/Integer;" } : Jvm.MethodName) jdk_33_method_22_code (1 : Nat) (Option.some (Jvm.ClassFile.FieldType.object "java/lang/Integer")), Jvm.Cond.code ({ cls := "com/example/amphisbaena/amphisbaena/format/Direction", name := "writer", desc := "(Ljava/lang/Object;Ljava/lang/Object;)Ljava/lang/Object;" } : Jvm.MethodName) prog_9_method_5_code (3 : Nat) (Option.some (Jvm.ClassFile.FieldType.object "java/lang/Object")), Jvm.Cond.code ({ cls := "com/example/amphisbaena/amphisbaena/format/Direction", name := "reader", desc := "(Ljava/lang/Object;Ljava/lang/Object;)Ljava/lang/Object;" } : Jvm.MethodName) prog_9_method_4_code (3 : Nat) (Option.some (Jvm.ClassFile.FieldType.object "java/lang/Object")), Jvm.Cond.code ({ cls := "java/lang/Integer", name := "intValue", desc := "()I" } : Jvm.MethodName) jdk_33_method_27_code (1 : Nat) (Option.some Jvm.ClassFile.FieldType.int), Jvm.Cond.code ({ cls := "java/lang/Integer", name := "<init>", desc := "(I)V" } : Jvm.MethodName) jdk_33_method_23_code (2 : Nat) (Option.none : Option Jvm.ClassFile.FieldType), Jvm.Cond.code ({ cls := "java/lang/Number", name := "<init>", desc := "()V" } : Jvm.MethodName) jdk_18_method_1_code (1 : Nat) (Option.none : Option Jvm.ClassFile.FieldType), Jvm.Cond.code ({ cls := "java/lang/Object", name := "<init>", desc := "()V" } : Jvm.MethodName) object_method_1_code (1 : Nat) (Option.none : Option Jvm.ClassFile.FieldType)]
set_option maxRecDepth 65536 in
theorem codes_eq : words1.filter isCode = codes1 := rfl
theorem w_codes : ∀ c ∈ words1.filter isCode, c.before args0 about1 = true := by
  rw [codes_eq]
  intro c hc
  simp only [codes1, List.mem_cons, List.not_mem_nil, or_false] at hc
  rcases hc with rfl | rfl | rfl | rfl | rfl | rfl | rfl | rfl
  · exact w_c0
  · exact w_c1
  · exact w_c2
  · exact w_c3
  · exact w_c4
  · exact w_c5
  · exact w_c6
  · exact w_c7
set_option maxRecDepth 65536 in
theorem w_t1 : (words1.take 24).all (fun c => isCode c || c.before args0 about1) = true := by decide +kernel
set_option maxRecDepth 65536 in
theorem w_t2 : (words1.drop 24).all (fun c => isCode c || c.before args0 about1) = true := by decide +kernel
theorem w_tables : (allAtoms (Jvm.Cond.code x code maxLocals ret :: tables_1)).before args0 about1 = true := by
  rw [allAtoms_all]
  show words1.all (fun c => c.before args0 about1) = true
  refine all_split ?_ w_codes
  rw [← List.take_append_drop 24 words1, List.all_append, w_t1, w_t2]
  rfl
set_option maxRecDepth 65536 in
theorem w_rest : rest_1_c.before args0 about1 = true := by decide +kernel
set_option maxRecDepth 65536 in
theorem w_case : (Jvm.Cond.and given_1 narrow_1).before args0 about1 = true := by decide +kernel
theorem w_applies : (headSpec (Jvm.Cond.code x code maxLocals ret :: tables_1) room_1).applies x e0.platform about1 = true :=
  (Spec.applies_iff w_frames).mpr ⟨w_running, w_runnable, w_alone, w_named, w_hears, w_ripe, w_room, w_tables⟩
theorem atStart : AtStart classFile x code maxLocals ret World_1 tables_1 room_1 Calls_1 rest_1 Pre_1 launch0 p0 e0 about1 theMethod args0 below0 :=
  ⟨lists_1, trivial, launch0.admits_env _ _ _, launch0.least_env, fairChoices_fair.cas, fairChoices_fair.clock, w_frames, w_args, w_heap, w_applies, trivial, w_rest, w_case⟩
end start1
theorem witness_1 : WitnessClaimed_1 := ⟨start1.p0, start1.e0, start1.about1, start1.theMethod, start1.args0, start1.below0, start1.atStart⟩
end Jvm.Pilot.@@N@@
