import JvmDerived
import JvmDerived.Pilot.@@N@@Statement
import JvmDerived.Pilot.@@N@@Code
set_option linter.unusedVariables false
set_option linter.unusedSimpArgs false
namespace Jvm.RoadKit
open Sem ClassFile Op Lib Jvm.Stand Jvm.Free Jvm.LawKit
section OwnFlow
variable {p : Program} {l : Launch} {e : Env} {R : Room} {s : State} {m : MethodId} {args : Array Value} {below : List Frame} {meth : Method} {c : Code} {T : State} {locs : List Loc} {cells slots : Nat} {P : State → Outcome → Prop} {Q : Option Value → Heap → List Loc → Prop} {C S : Nat}
/-- from t the run comes to an end at which P holds -/
def OGo (p : Program) (e : Env) (below : List Frame) (P : State → Outcome → Prop) (t : State) : Prop := ∃ s₂ o, Steps p.tables e below t s₂ ∧ s₂.status = .running ∧ Ended s₂ below o ∧ P s₂ o
/-- it returned; Q of the value, the heap and the places written; the frame -/
def OPost (s : State) (Q : Option Value → Heap → List Loc → Prop) (C S : Nat) (s₂ : State) (o : Outcome) : Prop := ∃ v L, o = .returned v ∧ Q v s₂.heap L ∧ FrameEnd s o s₂ L C S
theorem OGo.step {t t' : State} (h : ∀ u, Steps p.tables e below t' u → Steps p.tables e below t u) (g : OGo p e below P t') : OGo p e below P t := by
  obtain ⟨s2, o, h1, h2⟩ := g
  exact ⟨s2, o, h _ h1, h2⟩
theorem OGo.steps {t t' : State} (h : Steps p.tables e below t t') (g : OGo p e below P t') : OGo p e below P t := OGo.step (fun _ k => h.trans k) g
theorem OGo.retI (X : Stand p l e R s m args below meth c T locs cells slots) (hx : p.tables.exec = Jvm.exec) (hk : meth.locks = false) {pc : Nat} {Ls : Array Slot} {z : Int32} {rest : List Value} (hret : meth.sig.returnType = some .int) (hd : decode c.code pc = .ok (.ireturn, 1))
    (hc : cells ≤ C) (hs : slots ≤ S) (q : Q (some (.int z)) T.heap locs) : OGo p e below (OPost s Q C S) (T.setTop (mkF m pc Ls (.int z :: rest))) := by
  obtain ⟨fs, hr, hrun, hended, hW, hsame⟩ := X.leave (v := some (.int z)) (fun h => by rw [hret] at h; cases h) hk
  exact ⟨_, _, retOut X hx hret rfl (Or.inl ⟨rfl, Or.inl rfl, _, rfl⟩) hd hr, hrun, hended, _, _, rfl, q, ⟨_, rfl⟩, hW, hsame.mono hc hs⟩
theorem OGo.retN (X : Stand p l e R s m args below meth c T locs cells slots) (hx : p.tables.exec = Jvm.exec) (hk : meth.locks = false) {pc : Nat} {Ls : Array Slot} {z : Int32} {t : FieldType} {rest : List Value} (hret : meth.sig.returnType = some t) (ht : t = .boolean ∨ t = .byte ∨ t = .char ∨ t = .short) (hd : decode c.code pc = .ok (.ireturn, 1))
    (hc : cells ≤ C) (hs : slots ≤ S) (q : Q (some (.int (nar t z))) T.heap locs) : OGo p e below (OPost s Q C S) (T.setTop (mkF m pc Ls (.int z :: rest))) := by
  obtain ⟨fs, hr, hrun, hended, hW, hsame⟩ := X.leave (v := some (.int (nar t z))) (fun h => by rw [hret] at h; cases h) hk
  exact ⟨_, _, Jvm.RoadKit.retN X hx hret ht hd hr, hrun, hended, _, _, rfl, q, ⟨_, rfl⟩, hW, hsame.mono hc hs⟩
theorem OGo.retJ (X : Stand p l e R s m args below meth c T locs cells slots) (hx : p.tables.exec = Jvm.exec) (hk : meth.locks = false) {pc : Nat} {Ls : Array Slot} {z : Int64} {rest : List Value} (hret : meth.sig.returnType = some .long) (hd : decode c.code pc = .ok (.lreturn, 1))
    (hc : cells ≤ C) (hs : slots ≤ S) (q : Q (some (.long z)) T.heap locs) : OGo p e below (OPost s Q C S) (T.setTop (mkF m pc Ls (.long z :: rest))) := by
  obtain ⟨fs, hr, hrun, hended, hW, hsame⟩ := X.leave (v := some (.long z)) (fun h => by rw [hret] at h; cases h) hk
  exact ⟨_, _, retOut X hx hret rfl (Or.inr (Or.inl ⟨rfl, rfl, _, rfl⟩)) hd hr, hrun, hended, _, _, rfl, q, ⟨_, rfl⟩, hW, hsame.mono hc hs⟩
theorem OGo.retR (X : Stand p l e R s m args below meth c T locs cells slots) (hx : p.tables.exec = Jvm.exec) (hk : meth.locks = false) {pc : Nat} {Ls : Array Slot} {w : Value} {t : FieldType} {rest : List Value} (hret : meth.sig.returnType = some t) (ht : t.isReference = true) (hw : w.isRef = true) (hd : decode c.code pc = .ok (.areturn, 1))
    (hc : cells ≤ C) (hs : slots ≤ S) (q : Q (some w) T.heap locs) : OGo p e below (OPost s Q C S) (T.setTop (mkF m pc Ls (w :: rest))) := by
  obtain ⟨fs, hr, hrun, hended, hW, hsame⟩ := X.leave (v := some w) (fun h => by rw [hret] at h; cases h) hk
  have hn : narrow t w = w := by rcases ref_cases hw with rfl | ⟨a, rfl⟩ <;> cases t <;> first | rfl | (simp [FieldType.isReference] at ht)
  exact ⟨_, _, retOut X hx hret hn (Or.inr (Or.inr (Or.inr (Or.inr ⟨rfl, ht, hw⟩)))) hd hr, hrun, hended, _, _, rfl, q, ⟨_, rfl⟩, hW, hsame.mono hc hs⟩
theorem OGo.retV (X : Stand p l e R s m args below meth c T locs cells slots) (hx : p.tables.exec = Jvm.exec) (hk : meth.locks = false) {pc : Nat} {Ls : Array Slot} (hret : meth.sig.returnType = none) (hd : decode c.code pc = .ok (.return_, 1))
    (hc : cells ≤ C) (hs : slots ≤ S) (q : Q none T.heap locs) : OGo p e below (OPost s Q C S) (T.setTop (mkF m pc Ls [])) := by
  obtain ⟨fs, hr, hrun, hended, hW, hsame⟩ := X.leave (v := none) (fun _ => rfl) hk
  exact ⟨_, _, X.returnOut hx hret hd hr, hrun, hended, _, _, rfl, q, ⟨_, rfl⟩, hW, hsame.mono hc hs⟩
end OwnFlow
end Jvm.RoadKit
namespace Jvm.Pilot.@@N@@
open Jvm Jvm.ClassFile Sem Op Lib Jvm.Free Jvm.Stand Jvm.LawKit Jvm.RoadKit Bundle Jvm.Pilot.@@N@@.Jvm.D
theorem own_sh (z : Int32) : nar .short (z.toInt16.toInt32) = z.toInt16.toInt32 := by
  show z.toInt16.toInt32.toInt16.toInt32 = _
  rw [Int16.toInt16_toInt32]
theorem own_or0 (z : Int32) : (0 : Int32) ||| z = z := by simp
theorem d1_0 : decode prog_64_method_2_code 0 = .ok (.iconst 0, 1) := by decide +kernel
theorem d1_1 : decode prog_64_method_2_code 1 = .ok (.istore_n 1, 1) := by decide +kernel
theorem d1_2 : decode prog_64_method_2_code 2 = .ok (.aload_n 0, 1) := by decide +kernel
theorem d1_3 : decode prog_64_method_2_code 3 = .ok (.astore_n 2, 1) := by decide +kernel
theorem d1_4 : decode prog_64_method_2_code 4 = .ok (.aload_n 2, 1) := by decide +kernel
theorem d1_5 : decode prog_64_method_2_code 5 = .ok (.arraylength, 1) := by decide +kernel
theorem d1_6 : decode prog_64_method_2_code 6 = .ok (.istore_n 3, 1) := by decide +kernel
theorem d1_7 : decode prog_64_method_2_code 7 = .ok (.iconst 0, 1) := by decide +kernel
theorem d1_8 : decode prog_64_method_2_code 8 = .ok (.istore 4, 2) := by decide +kernel
theorem d1_10 : decode prog_64_method_2_code 10 = .ok (.iload 4, 2) := by decide +kernel
theorem d1_12 : decode prog_64_method_2_code 12 = .ok (.iload_n 3, 1) := by decide +kernel
theorem d1_13 : decode prog_64_method_2_code 13 = .ok (.if_icmp .ge 22, 3) := by decide +kernel
theorem d1_35 : decode prog_64_method_2_code 35 = .ok (.iload_n 1, 1) := by decide +kernel
theorem d1_36 : decode prog_64_method_2_code 36 = .ok (.ireturn, 1) := by decide +kernel
theorem pnz0 : plainName "com/example/hitung/hitung/NodeTypeTest" = true := by first | (simp [plainName, overriddenIn]; done) | decide +kernel
theorem efz0 (m : MethodId) (x0 : Addr) : entryFrame m #[(.ref x0)] 6 = mkF m 0 #[.val (.ref x0), .unset, .unset, .unset, .unset, .unset] [] := by first | (simp [entryFrame, mkF, argsToLocals, Value.category]; done) | rfl
def Qz0 (Z : State) (a : Addr) (kc : ClassId) (h0 : Heap) (n0 : Nat) (v : Option Value) (h : Heap) (L : List Loc) : Prop := v = some (.int (0 : Int32)) ∧ Fr n0 L ∧ h = h0
set_option maxRecDepth 65536 in
set_option maxHeartbeats 40000000 in
theorem rmz0 (l : Launch) (Z : State) (a0 : Array Value) (hw : ∀ d ∈ tables_1, d.before a0 Z = true) (ws : List Jvm.Cond) (a : Addr) (kc : ClassId) (h0 : Heap) (n0 : Nat) (Z0 : n0 ≤ h0.size) (Va : Arv Z h0 a kc .short (0 : Int32) [] (.int (0 : Int32))) :
    MetFree l (⟨"com/example/hitung/hitung/NodeTypeTest", "mask", "([S)I"⟩ : MethodName) (head1 (Jvm.Cond.code (⟨"com/example/hitung/hitung/NodeTypeTest", "mask", "([S)I"⟩ : MethodName) prog_64_method_2_code 6 (some .int) :: ws) ({ frames := 0, cells := 0, slots := 0, locals := 0 } : Room)) (fun aQ UQ => aQ = #[(.ref a)] ∧ Z.Warmed39 UQ.vm ∧ UQ.heap = h0) (fun _ _ _ _ _ => True) (fun _ U o U' => ∃ v L, o = .returned v ∧ Qz0 Z a kc h0 n0 v U'.heap L ∧ FrameEnd U o U' L ({ frames := 0, cells := 0, slots := 0, locals := 0 } : Room).cells ({ frames := 0, cells := 0, slots := 0, locals := 0 } : Room).slots) := by
  refine MetFree.of_bodySF (plainFor_of_name pnz0) hisR ?_
  intro p e s m args below meth c s₁ Bd hml0 hP hK
  obtain ⟨rfl, hZ, hh⟩ := hP
  have hx := Bd.exec
  have hby := Bd.bytes
  have hml : c.maxLocals = 6 := hml0
  have hown : s.vm.findClass "com/example/hitung/hitung/NodeTypeTest" = some m.cls := findClass_of_methodNamed Bd.named
  have hnm := (name_of_methodNamed Bd.named Bd.method).1
  have X0 : Stand p l e ({ frames := 0, cells := 0, slots := 0, locals := 0 } : Room) s m #[(.ref a)] below meth c s₁ [] 0 0 := Stand.of_body Bd
  have e0 : s₁.heap = h0 := by rw [← hh, Bd.state]; rfl
  have N0 := Fr.nil n0
  show OGo p e below (OPost s (Qz0 Z a kc h0 n0) ({ frames := 0, cells := 0, slots := 0, locals := 0 } : Room).cells ({ frames := 0, cells := 0, slots := 0, locals := 0 } : Room).slots) (s₁.setTop (entryFrame m #[(.ref a)] 6))
  refine OGo.step (fun uK kK => castTop (efz0 m a) kK) ?_
  show OGo p e below _ (s₁.setTop (mkF m 0 #[.val (.ref a), .unset, .unset, .unset, .unset, .unset] []))
  refine OGo.step (fun uK kK => XS.iconst X0.here hx rfl (hb hby d1_0) kK) ?_
  show OGo p e below _ (s₁.setTop (mkF m 1 #[.val (.ref a), .unset, .unset, .unset, .unset, .unset] [(.int (0 : Int32))]))
  refine OGo.step (fun uK kK => XS.istoreN X0.here hx rfl (hb hby d1_1) rfl (l' := #[.val (.ref a), .val (.int (0 : Int32)), .unset, .unset, .unset, .unset]) rfl kK) ?_
  show OGo p e below _ (s₁.setTop (mkF m 2 #[.val (.ref a), .val (.int (0 : Int32)), .unset, .unset, .unset, .unset] []))
  refine OGo.step (fun uK kK => XS.aloadN X0.here hx rfl (hb hby d1_2) rfl rfl kK) ?_
  show OGo p e below _ (s₁.setTop (mkF m 3 #[.val (.ref a), .val (.int (0 : Int32)), .unset, .unset, .unset, .unset] [(.ref a)]))
  refine OGo.step (fun uK kK => XS.astoreN X0.here hx rfl (hb hby d1_3) rfl rfl (l' := #[.val (.ref a), .val (.int (0 : Int32)), .val (.ref a), .unset, .unset, .unset]) rfl kK) ?_
  show OGo p e below _ (s₁.setTop (mkF m 4 #[.val (.ref a), .val (.int (0 : Int32)), .val (.ref a), .unset, .unset, .unset] []))
  refine OGo.step (fun uK kK => XS.aloadN X0.here hx rfl (hb hby d1_4) rfl rfl kK) ?_
  show OGo p e below _ (s₁.setTop (mkF m 5 #[.val (.ref a), .val (.int (0 : Int32)), .val (.ref a), .unset, .unset, .unset] [(.ref a)]))
  obtain ⟨cl1, Ar1, -, S1, M1, -, -⟩ := id Va
  refine OGo.step (fun uK kK => X0.arraylength hx (by rw [e0]; exact Ar1.1) (State.isArrayOf_alike hZ.alike Ar1.2.1) (g := (mkF m 5 #[.val (.ref a), .val (.int (0 : Int32)), .val (.ref a), .unset, .unset, .unset] [(.ref a)])) rfl rfl (hb hby d1_5) uK kK) ?_
  rw [len_of S1 M1]
  show OGo p e below _ (s₁.setTop (mkF m 6 #[.val (.ref a), .val (.int (0 : Int32)), .val (.ref a), .unset, .unset, .unset] [(.int (0 : Int32))]))
  refine OGo.step (fun uK kK => XS.istoreN X0.here hx rfl (hb hby d1_6) rfl (l' := #[.val (.ref a), .val (.int (0 : Int32)), .val (.ref a), .val (.int (0 : Int32)), .unset, .unset]) rfl kK) ?_
  show OGo p e below _ (s₁.setTop (mkF m 7 #[.val (.ref a), .val (.int (0 : Int32)), .val (.ref a), .val (.int (0 : Int32)), .unset, .unset] []))
  refine OGo.step (fun uK kK => XS.iconst X0.here hx rfl (hb hby d1_7) kK) ?_
  show OGo p e below _ (s₁.setTop (mkF m 8 #[.val (.ref a), .val (.int (0 : Int32)), .val (.ref a), .val (.int (0 : Int32)), .unset, .unset] [(.int (0 : Int32))]))
  refine OGo.step (fun uK kK => XS.istore X0.here hx rfl (hb hby d1_8) rfl (l' := #[.val (.ref a), .val (.int (0 : Int32)), .val (.ref a), .val (.int (0 : Int32)), .val (.int (0 : Int32)), .unset]) rfl kK) ?_
  show OGo p e below _ (s₁.setTop (mkF m 10 #[.val (.ref a), .val (.int (0 : Int32)), .val (.ref a), .val (.int (0 : Int32)), .val (.int (0 : Int32)), .unset] []))
  refine OGo.step (fun uK kK => XS.iload X0.here hx rfl (hb hby d1_10) rfl kK) ?_
  show OGo p e below _ (s₁.setTop (mkF m 12 #[.val (.ref a), .val (.int (0 : Int32)), .val (.ref a), .val (.int (0 : Int32)), .val (.int (0 : Int32)), .unset] [(.int (0 : Int32))]))
  refine OGo.step (fun uK kK => XS.iloadN X0.here hx rfl (hb hby d1_12) rfl kK) ?_
  show OGo p e below _ (s₁.setTop (mkF m 13 #[.val (.ref a), .val (.int (0 : Int32)), .val (.ref a), .val (.int (0 : Int32)), .val (.int (0 : Int32)), .unset] [(.int (0 : Int32)), (.int (0 : Int32))]))
  have hc13 : ¬ ((0 : Int32) < (0 : Int32)) := by decide
  refine OGo.step (fun uK kK => XS.icmpYes X0.here hx rfl (pc0 := 13) (pc' := 35) rfl (hb hby d1_13) rfl (flt hc13).2.1 (by decide) (by decide) kK) ?_
  show OGo p e below _ (s₁.setTop (mkF m 35 #[.val (.ref a), .val (.int (0 : Int32)), .val (.ref a), .val (.int (0 : Int32)), .val (.int (0 : Int32)), .unset] []))
  refine OGo.step (fun uK kK => XS.iloadN X0.here hx rfl (hb hby d1_35) rfl kK) ?_
  show OGo p e below _ (s₁.setTop (mkF m 36 #[.val (.ref a), .val (.int (0 : Int32)), .val (.ref a), .val (.int (0 : Int32)), .val (.int (0 : Int32)), .unset] [(.int (0 : Int32))]))
  exact OGo.retI X0 hx Bd.notSynchronized Bd.returns (hb hby d1_36) (by decide) (by decide) (by show Qz0 Z a kc h0 n0 _ s₁.heap _; rw [e0]; exact ⟨rfl, N0, rfl⟩)
theorem d1_16 : decode prog_64_method_2_code 16 = .ok (.aload_n 2, 1) := by decide +kernel
theorem d1_17 : decode prog_64_method_2_code 17 = .ok (.iload 4, 2) := by decide +kernel
theorem d1_19 : decode prog_64_method_2_code 19 = .ok (.saload, 1) := by decide +kernel
theorem d1_20 : decode prog_64_method_2_code 20 = .ok (.istore 5, 2) := by decide +kernel
theorem d1_22 : decode prog_64_method_2_code 22 = .ok (.iload_n 1, 1) := by decide +kernel
theorem d1_23 : decode prog_64_method_2_code 23 = .ok (.iconst 1, 1) := by decide +kernel
theorem d1_24 : decode prog_64_method_2_code 24 = .ok (.iload 5, 2) := by decide +kernel
theorem d1_26 : decode prog_64_method_2_code 26 = .ok (.ishl, 1) := by decide +kernel
theorem d1_27 : decode prog_64_method_2_code 27 = .ok (.ior, 1) := by decide +kernel
theorem d1_28 : decode prog_64_method_2_code 28 = .ok (.istore_n 1, 1) := by decide +kernel
theorem d1_29 : decode prog_64_method_2_code 29 = .ok (.iinc 4 1, 3) := by decide +kernel
theorem d1_32 : decode prog_64_method_2_code 32 = .ok (.goto (-22), 3) := by decide +kernel
theorem pnz1 : plainName "com/example/hitung/hitung/NodeTypeTest" = true := by first | (simp [plainName, overriddenIn]; done) | decide +kernel
theorem efz1 (m : MethodId) (x0 : Addr) : entryFrame m #[(.ref x0)] 6 = mkF m 0 #[.val (.ref x0), .unset, .unset, .unset, .unset, .unset] [] := by first | (simp [entryFrame, mkF, argsToLocals, Value.category]; done) | rfl
def Qz1 (Z : State) (a : Addr) (kc : ClassId) (v1 : Int32) (h0 : Heap) (n0 : Nat) (v : Option Value) (h : Heap) (L : List Loc) : Prop := v = some (.int ((0 : Int32) ||| ((1 : Int32) <<< (v1 &&& 31)))) ∧ Fr n0 L ∧ h = h0
set_option maxRecDepth 65536 in
set_option maxHeartbeats 40000000 in
theorem rmz1 (l : Launch) (Z : State) (a0 : Array Value) (hw : ∀ d ∈ tables_1, d.before a0 Z = true) (ws : List Jvm.Cond) (a : Addr) (kc : ClassId) (v1 : Int32) (h0 : Heap) (n0 : Nat) (Z0 : n0 ≤ h0.size) (Va : Arv Z h0 a kc .short (1 : Int32) [(.int v1)] (.int (0 : Int32))) :
    MetFree l (⟨"com/example/hitung/hitung/NodeTypeTest", "mask", "([S)I"⟩ : MethodName) (head1 (Jvm.Cond.code (⟨"com/example/hitung/hitung/NodeTypeTest", "mask", "([S)I"⟩ : MethodName) prog_64_method_2_code 6 (some .int) :: ws) ({ frames := 0, cells := 0, slots := 0, locals := 0 } : Room)) (fun aQ UQ => aQ = #[(.ref a)] ∧ Z.Warmed39 UQ.vm ∧ UQ.heap = h0) (fun _ _ _ _ _ => True) (fun _ U o U' => ∃ v L, o = .returned v ∧ Qz1 Z a kc v1 h0 n0 v U'.heap L ∧ FrameEnd U o U' L ({ frames := 0, cells := 0, slots := 0, locals := 0 } : Room).cells ({ frames := 0, cells := 0, slots := 0, locals := 0 } : Room).slots) := by
  refine MetFree.of_bodySF (plainFor_of_name pnz1) hisR ?_
  intro p e s m args below meth c s₁ Bd hml0 hP hK
  obtain ⟨rfl, hZ, hh⟩ := hP
  have hx := Bd.exec
  have hby := Bd.bytes
  have hml : c.maxLocals = 6 := hml0
  have hown : s.vm.findClass "com/example/hitung/hitung/NodeTypeTest" = some m.cls := findClass_of_methodNamed Bd.named
  have hnm := (name_of_methodNamed Bd.named Bd.method).1
  have X0 : Stand p l e ({ frames := 0, cells := 0, slots := 0, locals := 0 } : Room) s m #[(.ref a)] below meth c s₁ [] 0 0 := Stand.of_body Bd
  have e0 : s₁.heap = h0 := by rw [← hh, Bd.state]; rfl
  have N0 := Fr.nil n0
  show OGo p e below (OPost s (Qz1 Z a kc v1 h0 n0) ({ frames := 0, cells := 0, slots := 0, locals := 0 } : Room).cells ({ frames := 0, cells := 0, slots := 0, locals := 0 } : Room).slots) (s₁.setTop (entryFrame m #[(.ref a)] 6))
  refine OGo.step (fun uK kK => castTop (efz1 m a) kK) ?_
  show OGo p e below _ (s₁.setTop (mkF m 0 #[.val (.ref a), .unset, .unset, .unset, .unset, .unset] []))
  refine OGo.step (fun uK kK => XS.iconst X0.here hx rfl (hb hby d1_0) kK) ?_
  show OGo p e below _ (s₁.setTop (mkF m 1 #[.val (.ref a), .unset, .unset, .unset, .unset, .unset] [(.int (0 : Int32))]))
  refine OGo.step (fun uK kK => XS.istoreN X0.here hx rfl (hb hby d1_1) rfl (l' := #[.val (.ref a), .val (.int (0 : Int32)), .unset, .unset, .unset, .unset]) rfl kK) ?_
  show OGo p e below _ (s₁.setTop (mkF m 2 #[.val (.ref a), .val (.int (0 : Int32)), .unset, .unset, .unset, .unset] []))
  refine OGo.step (fun uK kK => XS.aloadN X0.here hx rfl (hb hby d1_2) rfl rfl kK) ?_
  show OGo p e below _ (s₁.setTop (mkF m 3 #[.val (.ref a), .val (.int (0 : Int32)), .unset, .unset, .unset, .unset] [(.ref a)]))
  refine OGo.step (fun uK kK => XS.astoreN X0.here hx rfl (hb hby d1_3) rfl rfl (l' := #[.val (.ref a), .val (.int (0 : Int32)), .val (.ref a), .unset, .unset, .unset]) rfl kK) ?_
  show OGo p e below _ (s₁.setTop (mkF m 4 #[.val (.ref a), .val (.int (0 : Int32)), .val (.ref a), .unset, .unset, .unset] []))
  refine OGo.step (fun uK kK => XS.aloadN X0.here hx rfl (hb hby d1_4) rfl rfl kK) ?_
  show OGo p e below _ (s₁.setTop (mkF m 5 #[.val (.ref a), .val (.int (0 : Int32)), .val (.ref a), .unset, .unset, .unset] [(.ref a)]))
  obtain ⟨cl1, Ar1, -, S1, M1, -, -⟩ := id Va
  refine OGo.step (fun uK kK => X0.arraylength hx (by rw [e0]; exact Ar1.1) (State.isArrayOf_alike hZ.alike Ar1.2.1) (g := (mkF m 5 #[.val (.ref a), .val (.int (0 : Int32)), .val (.ref a), .unset, .unset, .unset] [(.ref a)])) rfl rfl (hb hby d1_5) uK kK) ?_
  rw [len_of S1 M1]
  show OGo p e below _ (s₁.setTop (mkF m 6 #[.val (.ref a), .val (.int (0 : Int32)), .val (.ref a), .unset, .unset, .unset] [(.int (1 : Int32))]))
  refine OGo.step (fun uK kK => XS.istoreN X0.here hx rfl (hb hby d1_6) rfl (l' := #[.val (.ref a), .val (.int (0 : Int32)), .val (.ref a), .val (.int (1 : Int32)), .unset, .unset]) rfl kK) ?_
  show OGo p e below _ (s₁.setTop (mkF m 7 #[.val (.ref a), .val (.int (0 : Int32)), .val (.ref a), .val (.int (1 : Int32)), .unset, .unset] []))
  refine OGo.step (fun uK kK => XS.iconst X0.here hx rfl (hb hby d1_7) kK) ?_
  show OGo p e below _ (s₁.setTop (mkF m 8 #[.val (.ref a), .val (.int (0 : Int32)), .val (.ref a), .val (.int (1 : Int32)), .unset, .unset] [(.int (0 : Int32))]))
  refine OGo.step (fun uK kK => XS.istore X0.here hx rfl (hb hby d1_8) rfl (l' := #[.val (.ref a), .val (.int (0 : Int32)), .val (.ref a), .val (.int (1 : Int32)), .val (.int (0 : Int32)), .unset]) rfl kK) ?_
  show OGo p e below _ (s₁.setTop (mkF m 10 #[.val (.ref a), .val (.int (0 : Int32)), .val (.ref a), .val (.int (1 : Int32)), .val (.int (0 : Int32)), .unset] []))
  refine OGo.step (fun uK kK => XS.iload X0.here hx rfl (hb hby d1_10) rfl kK) ?_
  show OGo p e below _ (s₁.setTop (mkF m 12 #[.val (.ref a), .val (.int (0 : Int32)), .val (.ref a), .val (.int (1 : Int32)), .val (.int (0 : Int32)), .unset] [(.int (0 : Int32))]))
  refine OGo.step (fun uK kK => XS.iloadN X0.here hx rfl (hb hby d1_12) rfl kK) ?_
  show OGo p e below _ (s₁.setTop (mkF m 13 #[.val (.ref a), .val (.int (0 : Int32)), .val (.ref a), .val (.int (1 : Int32)), .val (.int (0 : Int32)), .unset] [(.int (1 : Int32)), (.int (0 : Int32))]))
  have hc13 : (0 : Int32) < (1 : Int32) := by decide
  refine OGo.step (fun uK kK => XS.icmpNo X0.here hx rfl (hb hby d1_13) rfl (tlt hc13).2.1 kK) ?_
  show OGo p e below _ (s₁.setTop (mkF m 16 #[.val (.ref a), .val (.int (0 : Int32)), .val (.ref a), .val (.int (1 : Int32)), .val (.int (0 : Int32)), .unset] []))
  refine OGo.step (fun uK kK => XS.aloadN X0.here hx rfl (hb hby d1_16) rfl rfl kK) ?_
  show OGo p e below _ (s₁.setTop (mkF m 17 #[.val (.ref a), .val (.int (0 : Int32)), .val (.ref a), .val (.int (1 : Int32)), .val (.int (0 : Int32)), .unset] [(.ref a)]))
  refine OGo.step (fun uK kK => XS.iload X0.here hx rfl (hb hby d1_17) rfl kK) ?_
  show OGo p e below _ (s₁.setTop (mkF m 19 #[.val (.ref a), .val (.int (0 : Int32)), .val (.ref a), .val (.int (1 : Int32)), .val (.int (0 : Int32)), .unset] [(.int (0 : Int32)), (.ref a)]))
  obtain ⟨cl2, Ar2, q2, S2, M2, H2, G2⟩ := id Va
  have hin2 : ¬ ((0 : Int32) < 0 ∨ cl2.slots.size ≤ ((0 : Int32)).toNatClampNeg) := inb_of S2 ⟨by decide, by decide⟩
  have hat2 : cl2.slots[((0 : Int32)).toNatClampNeg]? = some (.int v1) := H2.at hin2 rfl
  refine OGo.step (fun uK kK => X0.saload hx (j := (0 : Int32)) (v := (.int v1)) (by rw [e0]; exact Ar2.1) (State.isArrayOf_alike hZ.alike Ar2.2.1) Ar2.2.2 hin2 hat2 (g := (mkF m 19 #[.val (.ref a), .val (.int (0 : Int32)), .val (.ref a), .val (.int (1 : Int32)), .val (.int (0 : Int32)), .unset] [(.int (0 : Int32)), (.ref a)])) rfl rfl (hb hby d1_19) uK kK) ?_
  show OGo p e below _ (s₁.setTop (mkF m 20 #[.val (.ref a), .val (.int (0 : Int32)), .val (.ref a), .val (.int (1 : Int32)), .val (.int (0 : Int32)), .unset] [(.int v1)]))
  refine OGo.step (fun uK kK => XS.istore X0.here hx rfl (hb hby d1_20) rfl (l' := #[.val (.ref a), .val (.int (0 : Int32)), .val (.ref a), .val (.int (1 : Int32)), .val (.int (0 : Int32)), .val (.int v1)]) rfl kK) ?_
  show OGo p e below _ (s₁.setTop (mkF m 22 #[.val (.ref a), .val (.int (0 : Int32)), .val (.ref a), .val (.int (1 : Int32)), .val (.int (0 : Int32)), .val (.int v1)] []))
  refine OGo.step (fun uK kK => XS.iloadN X0.here hx rfl (hb hby d1_22) rfl kK) ?_
  show OGo p e below _ (s₁.setTop (mkF m 23 #[.val (.ref a), .val (.int (0 : Int32)), .val (.ref a), .val (.int (1 : Int32)), .val (.int (0 : Int32)), .val (.int v1)] [(.int (0 : Int32))]))
  refine OGo.step (fun uK kK => XS.iconst X0.here hx rfl (hb hby d1_23) kK) ?_
  show OGo p e below _ (s₁.setTop (mkF m 24 #[.val (.ref a), .val (.int (0 : Int32)), .val (.ref a), .val (.int (1 : Int32)), .val (.int (0 : Int32)), .val (.int v1)] [(.int (1 : Int32)), (.int (0 : Int32))]))
  refine OGo.step (fun uK kK => XS.iload X0.here hx rfl (hb hby d1_24) rfl kK) ?_
  show OGo p e below _ (s₁.setTop (mkF m 26 #[.val (.ref a), .val (.int (0 : Int32)), .val (.ref a), .val (.int (1 : Int32)), .val (.int (0 : Int32)), .val (.int v1)] [(.int v1), (.int (1 : Int32)), (.int (0 : Int32))]))
  refine OGo.step (fun uK kK => XS.ishl X0.here hx rfl (hb hby d1_26) rfl kK) ?_
  show OGo p e below _ (s₁.setTop (mkF m 27 #[.val (.ref a), .val (.int (0 : Int32)), .val (.ref a), .val (.int (1 : Int32)), .val (.int (0 : Int32)), .val (.int v1)] [(.int ((1 : Int32) <<< (v1 &&& 31))), (.int (0 : Int32))]))
  refine OGo.step (fun uK kK => XS.ior X0.here hx rfl (hb hby d1_27) rfl kK) ?_
  show OGo p e below _ (s₁.setTop (mkF m 28 #[.val (.ref a), .val (.int (0 : Int32)), .val (.ref a), .val (.int (1 : Int32)), .val (.int (0 : Int32)), .val (.int v1)] [(.int ((0 : Int32) ||| ((1 : Int32) <<< (v1 &&& 31))))]))
  refine OGo.step (fun uK kK => XS.istoreN X0.here hx rfl (hb hby d1_28) rfl (l' := #[.val (.ref a), .val (.int ((0 : Int32) ||| ((1 : Int32) <<< (v1 &&& 31)))), .val (.ref a), .val (.int (1 : Int32)), .val (.int (0 : Int32)), .val (.int v1)]) rfl kK) ?_
  show OGo p e below _ (s₁.setTop (mkF m 29 #[.val (.ref a), .val (.int ((0 : Int32) ||| ((1 : Int32) <<< (v1 &&& 31)))), .val (.ref a), .val (.int (1 : Int32)), .val (.int (0 : Int32)), .val (.int v1)] []))
  refine OGo.step (fun uK kK => XS.iinc X0.here hx rfl (hb hby d1_29) rfl (l' := #[.val (.ref a), .val (.int ((0 : Int32) ||| ((1 : Int32) <<< (v1 &&& 31)))), .val (.ref a), .val (.int (1 : Int32)), .val (.int (1 : Int32)), .val (.int v1)]) rfl kK) ?_
  show OGo p e below _ (s₁.setTop (mkF m 32 #[.val (.ref a), .val (.int ((0 : Int32) ||| ((1 : Int32) <<< (v1 &&& 31)))), .val (.ref a), .val (.int (1 : Int32)), .val (.int (1 : Int32)), .val (.int v1)] []))
  refine OGo.step (fun uK kK => XS.goto X0.here hx rfl (pc0 := 32) (pc' := 10) rfl (hb hby d1_32) (by decide) (by decide) kK) ?_
  show OGo p e below _ (s₁.setTop (mkF m 10 #[.val (.ref a), .val (.int ((0 : Int32) ||| ((1 : Int32) <<< (v1 &&& 31)))), .val (.ref a), .val (.int (1 : Int32)), .val (.int (1 : Int32)), .val (.int v1)] []))
  refine OGo.step (fun uK kK => XS.iload X0.here hx rfl (hb hby d1_10) rfl kK) ?_
  show OGo p e below _ (s₁.setTop (mkF m 12 #[.val (.ref a), .val (.int ((0 : Int32) ||| ((1 : Int32) <<< (v1 &&& 31)))), .val (.ref a), .val (.int (1 : Int32)), .val (.int (1 : Int32)), .val (.int v1)] [(.int (1 : Int32))]))
  refine OGo.step (fun uK kK => XS.iloadN X0.here hx rfl (hb hby d1_12) rfl kK) ?_
  show OGo p e below _ (s₁.setTop (mkF m 13 #[.val (.ref a), .val (.int ((0 : Int32) ||| ((1 : Int32) <<< (v1 &&& 31)))), .val (.ref a), .val (.int (1 : Int32)), .val (.int (1 : Int32)), .val (.int v1)] [(.int (1 : Int32)), (.int (1 : Int32))]))
  have hc13 : ¬ ((1 : Int32) < (1 : Int32)) := by decide
  refine OGo.step (fun uK kK => XS.icmpYes X0.here hx rfl (pc0 := 13) (pc' := 35) rfl (hb hby d1_13) rfl (flt hc13).2.1 (by decide) (by decide) kK) ?_
  show OGo p e below _ (s₁.setTop (mkF m 35 #[.val (.ref a), .val (.int ((0 : Int32) ||| ((1 : Int32) <<< (v1 &&& 31)))), .val (.ref a), .val (.int (1 : Int32)), .val (.int (1 : Int32)), .val (.int v1)] []))
  refine OGo.step (fun uK kK => XS.iloadN X0.here hx rfl (hb hby d1_35) rfl kK) ?_
  show OGo p e below _ (s₁.setTop (mkF m 36 #[.val (.ref a), .val (.int ((0 : Int32) ||| ((1 : Int32) <<< (v1 &&& 31)))), .val (.ref a), .val (.int (1 : Int32)), .val (.int (1 : Int32)), .val (.int v1)] [(.int ((0 : Int32) ||| ((1 : Int32) <<< (v1 &&& 31))))]))
  exact OGo.retI X0 hx Bd.notSynchronized Bd.returns (hb hby d1_36) (by decide) (by decide) (by show Qz1 Z a kc v1 h0 n0 _ s₁.heap _; rw [e0]; exact ⟨rfl, N0, rfl⟩)
theorem pnz2 : plainName "com/example/hitung/hitung/NodeTypeTest" = true := by first | (simp [plainName, overriddenIn]; done) | decide +kernel
theorem efz2 (m : MethodId) (x0 : Addr) : entryFrame m #[(.ref x0)] 6 = mkF m 0 #[.val (.ref x0), .unset, .unset, .unset, .unset, .unset] [] := by first | (simp [entryFrame, mkF, argsToLocals, Value.category]; done) | rfl
def Qz2 (Z : State) (a : Addr) (kc : ClassId) (v1 : Int32) (v2 : Int32) (h0 : Heap) (n0 : Nat) (v : Option Value) (h : Heap) (L : List Loc) : Prop := v = some (.int (((0 : Int32) ||| ((1 : Int32) <<< (v1 &&& 31))) ||| ((1 : Int32) <<< (v2 &&& 31)))) ∧ Fr n0 L ∧ h = h0
set_option maxRecDepth 65536 in
set_option maxHeartbeats 40000000 in
theorem rmz2 (l : Launch) (Z : State) (a0 : Array Value) (hw : ∀ d ∈ tables_1, d.before a0 Z = true) (ws : List Jvm.Cond) (a : Addr) (kc : ClassId) (v1 : Int32) (v2 : Int32) (h0 : Heap) (n0 : Nat) (Z0 : n0 ≤ h0.size) (Va : Arv Z h0 a kc .short (2 : Int32) [(.int v1), (.int v2)] (.int (0 : Int32))) :
    MetFree l (⟨"com/example/hitung/hitung/NodeTypeTest", "mask", "([S)I"⟩ : MethodName) (head1 (Jvm.Cond.code (⟨"com/example/hitung/hitung/NodeTypeTest", "mask", "([S)I"⟩ : MethodName) prog_64_method_2_code 6 (some .int) :: ws) ({ frames := 0, cells := 0, slots := 0, locals := 0 } : Room)) (fun aQ UQ => aQ = #[(.ref a)] ∧ Z.Warmed39 UQ.vm ∧ UQ.heap = h0) (fun _ _ _ _ _ => True) (fun _ U o U' => ∃ v L, o = .returned v ∧ Qz2 Z a kc v1 v2 h0 n0 v U'.heap L ∧ FrameEnd U o U' L ({ frames := 0, cells := 0, slots := 0, locals := 0 } : Room).cells ({ frames := 0, cells := 0, slots := 0, locals := 0 } : Room).slots) := by
  refine MetFree.of_bodySF (plainFor_of_name pnz2) hisR ?_
  intro p e s m args below meth c s₁ Bd hml0 hP hK
  obtain ⟨rfl, hZ, hh⟩ := hP
  have hx := Bd.exec
  have hby := Bd.bytes
  have hml : c.maxLocals = 6 := hml0
  have hown : s.vm.findClass "com/example/hitung/hitung/NodeTypeTest" = some m.cls := findClass_of_methodNamed Bd.named
  have hnm := (name_of_methodNamed Bd.named Bd.method).1
  have X0 : Stand p l e ({ frames := 0, cells := 0, slots := 0, locals := 0 } : Room) s m #[(.ref a)] below meth c s₁ [] 0 0 := Stand.of_body Bd
  have e0 : s₁.heap = h0 := by rw [← hh, Bd.state]; rfl
  have N0 := Fr.nil n0
  show OGo p e below (OPost s (Qz2 Z a kc v1 v2 h0 n0) ({ frames := 0, cells := 0, slots := 0, locals := 0 } : Room).cells ({ frames := 0, cells := 0, slots := 0, locals := 0 } : Room).slots) (s₁.setTop (entryFrame m #[(.ref a)] 6))
  refine OGo.step (fun uK kK => castTop (efz2 m a) kK) ?_
  show OGo p e below _ (s₁.setTop (mkF m 0 #[.val (.ref a), .unset, .unset, .unset, .unset, .unset] []))
  refine OGo.step (fun uK kK => XS.iconst X0.here hx rfl (hb hby d1_0) kK) ?_
  show OGo p e below _ (s₁.setTop (mkF m 1 #[.val (.ref a), .unset, .unset, .unset, .unset, .unset] [(.int (0 : Int32))]))
  refine OGo.step (fun uK kK => XS.istoreN X0.here hx rfl (hb hby d1_1) rfl (l' := #[.val (.ref a), .val (.int (0 : Int32)), .unset, .unset, .unset, .unset]) rfl kK) ?_
  show OGo p e below _ (s₁.setTop (mkF m 2 #[.val (.ref a), .val (.int (0 : Int32)), .unset, .unset, .unset, .unset] []))
  refine OGo.step (fun uK kK => XS.aloadN X0.here hx rfl (hb hby d1_2) rfl rfl kK) ?_
  show OGo p e below _ (s₁.setTop (mkF m 3 #[.val (.ref a), .val (.int (0 : Int32)), .unset, .unset, .unset, .unset] [(.ref a)]))
  refine OGo.step (fun uK kK => XS.astoreN X0.here hx rfl (hb hby d1_3) rfl rfl (l' := #[.val (.ref a), .val (.int (0 : Int32)), .val (.ref a), .unset, .unset, .unset]) rfl kK) ?_
  show OGo p e below _ (s₁.setTop (mkF m 4 #[.val (.ref a), .val (.int (0 : Int32)), .val (.ref a), .unset, .unset, .unset] []))
  refine OGo.step (fun uK kK => XS.aloadN X0.here hx rfl (hb hby d1_4) rfl rfl kK) ?_
  show OGo p e below _ (s₁.setTop (mkF m 5 #[.val (.ref a), .val (.int (0 : Int32)), .val (.ref a), .unset, .unset, .unset] [(.ref a)]))
  obtain ⟨cl1, Ar1, -, S1, M1, -, -⟩ := id Va
  refine OGo.step (fun uK kK => X0.arraylength hx (by rw [e0]; exact Ar1.1) (State.isArrayOf_alike hZ.alike Ar1.2.1) (g := (mkF m 5 #[.val (.ref a), .val (.int (0 : Int32)), .val (.ref a), .unset, .unset, .unset] [(.ref a)])) rfl rfl (hb hby d1_5) uK kK) ?_
  rw [len_of S1 M1]
  show OGo p e below _ (s₁.setTop (mkF m 6 #[.val (.ref a), .val (.int (0 : Int32)), .val (.ref a), .unset, .unset, .unset] [(.int (2 : Int32))]))
  refine OGo.step (fun uK kK => XS.istoreN X0.here hx rfl (hb hby d1_6) rfl (l' := #[.val (.ref a), .val (.int (0 : Int32)), .val (.ref a), .val (.int (2 : Int32)), .unset, .unset]) rfl kK) ?_
  show OGo p e below _ (s₁.setTop (mkF m 7 #[.val (.ref a), .val (.int (0 : Int32)), .val (.ref a), .val (.int (2 : Int32)), .unset, .unset] []))
  refine OGo.step (fun uK kK => XS.iconst X0.here hx rfl (hb hby d1_7) kK) ?_
  show OGo p e below _ (s₁.setTop (mkF m 8 #[.val (.ref a), .val (.int (0 : Int32)), .val (.ref a), .val (.int (2 : Int32)), .unset, .unset] [(.int (0 : Int32))]))
  refine OGo.step (fun uK kK => XS.istore X0.here hx rfl (hb hby d1_8) rfl (l' := #[.val (.ref a), .val (.int (0 : Int32)), .val (.ref a), .val (.int (2 : Int32)), .val (.int (0 : Int32)), .unset]) rfl kK) ?_
  show OGo p e below _ (s₁.setTop (mkF m 10 #[.val (.ref a), .val (.int (0 : Int32)), .val (.ref a), .val (.int (2 : Int32)), .val (.int (0 : Int32)), .unset] []))
  refine OGo.step (fun uK kK => XS.iload X0.here hx rfl (hb hby d1_10) rfl kK) ?_
  show OGo p e below _ (s₁.setTop (mkF m 12 #[.val (.ref a), .val (.int (0 : Int32)), .val (.ref a), .val (.int (2 : Int32)), .val (.int (0 : Int32)), .unset] [(.int (0 : Int32))]))
  refine OGo.step (fun uK kK => XS.iloadN X0.here hx rfl (hb hby d1_12) rfl kK) ?_
  show OGo p e below _ (s₁.setTop (mkF m 13 #[.val (.ref a), .val (.int (0 : Int32)), .val (.ref a), .val (.int (2 : Int32)), .val (.int (0 : Int32)), .unset] [(.int (2 : Int32)), (.int (0 : Int32))]))
  have hc13 : (0 : Int32) < (2 : Int32) := by decide
  refine OGo.step (fun uK kK => XS.icmpNo X0.here hx rfl (hb hby d1_13) rfl (tlt hc13).2.1 kK) ?_
  show OGo p e below _ (s₁.setTop (mkF m 16 #[.val (.ref a), .val (.int (0 : Int32)), .val (.ref a), .val (.int (2 : Int32)), .val (.int (0 : Int32)), .unset] []))
  refine OGo.step (fun uK kK => XS.aloadN X0.here hx rfl (hb hby d1_16) rfl rfl kK) ?_
  show OGo p e below _ (s₁.setTop (mkF m 17 #[.val (.ref a), .val (.int (0 : Int32)), .val (.ref a), .val (.int (2 : Int32)), .val (.int (0 : Int32)), .unset] [(.ref a)]))
  refine OGo.step (fun uK kK => XS.iload X0.here hx rfl (hb hby d1_17) rfl kK) ?_
  show OGo p e below _ (s₁.setTop (mkF m 19 #[.val (.ref a), .val (.int (0 : Int32)), .val (.ref a), .val (.int (2 : Int32)), .val (.int (0 : Int32)), .unset] [(.int (0 : Int32)), (.ref a)]))
  obtain ⟨cl2, Ar2, q2, S2, M2, H2, G2⟩ := id Va
  have hin2 : ¬ ((0 : Int32) < 0 ∨ cl2.slots.size ≤ ((0 : Int32)).toNatClampNeg) := inb_of S2 ⟨by decide, by decide⟩
  have hat2 : cl2.slots[((0 : Int32)).toNatClampNeg]? = some (.int v1) := H2.at hin2 rfl
  refine OGo.step (fun uK kK => X0.saload hx (j := (0 : Int32)) (v := (.int v1)) (by rw [e0]; exact Ar2.1) (State.isArrayOf_alike hZ.alike Ar2.2.1) Ar2.2.2 hin2 hat2 (g := (mkF m 19 #[.val (.ref a), .val (.int (0 : Int32)), .val (.ref a), .val (.int (2 : Int32)), .val (.int (0 : Int32)), .unset] [(.int (0 : Int32)), (.ref a)])) rfl rfl (hb hby d1_19) uK kK) ?_
  show OGo p e below _ (s₁.setTop (mkF m 20 #[.val (.ref a), .val (.int (0 : Int32)), .val (.ref a), .val (.int (2 : Int32)), .val (.int (0 : Int32)), .unset] [(.int v1)]))
  refine OGo.step (fun uK kK => XS.istore X0.here hx rfl (hb hby d1_20) rfl (l' := #[.val (.ref a), .val (.int (0 : Int32)), .val (.ref a), .val (.int (2 : Int32)), .val (.int (0 : Int32)), .val (.int v1)]) rfl kK) ?_
  show OGo p e below _ (s₁.setTop (mkF m 22 #[.val (.ref a), .val (.int (0 : Int32)), .val (.ref a), .val (.int (2 : Int32)), .val (.int (0 : Int32)), .val (.int v1)] []))
  refine OGo.step (fun uK kK => XS.iloadN X0.here hx rfl (hb hby d1_22) rfl kK) ?_
  show OGo p e below _ (s₁.setTop (mkF m 23 #[.val (.ref a), .val (.int (0 : Int32)), .val (.ref a), .val (.int (2 : Int32)), .val (.int (0 : Int32)), .val (.int v1)] [(.int (0 : Int32))]))
  refine OGo.step (fun uK kK => XS.iconst X0.here hx rfl (hb hby d1_23) kK) ?_
  show OGo p e below _ (s₁.setTop (mkF m 24 #[.val (.ref a), .val (.int (0 : Int32)), .val (.ref a), .val (.int (2 : Int32)), .val (.int (0 : Int32)), .val (.int v1)] [(.int (1 : Int32)), (.int (0 : Int32))]))
  refine OGo.step (fun uK kK => XS.iload X0.here hx rfl (hb hby d1_24) rfl kK) ?_
  show OGo p e below _ (s₁.setTop (mkF m 26 #[.val (.ref a), .val (.int (0 : Int32)), .val (.ref a), .val (.int (2 : Int32)), .val (.int (0 : Int32)), .val (.int v1)] [(.int v1), (.int (1 : Int32)), (.int (0 : Int32))]))
  refine OGo.step (fun uK kK => XS.ishl X0.here hx rfl (hb hby d1_26) rfl kK) ?_
  show OGo p e below _ (s₁.setTop (mkF m 27 #[.val (.ref a), .val (.int (0 : Int32)), .val (.ref a), .val (.int (2 : Int32)), .val (.int (0 : Int32)), .val (.int v1)] [(.int ((1 : Int32) <<< (v1 &&& 31))), (.int (0 : Int32))]))
  refine OGo.step (fun uK kK => XS.ior X0.here hx rfl (hb hby d1_27) rfl kK) ?_
  show OGo p e below _ (s₁.setTop (mkF m 28 #[.val (.ref a), .val (.int (0 : Int32)), .val (.ref a), .val (.int (2 : Int32)), .val (.int (0 : Int32)), .val (.int v1)] [(.int ((0 : Int32) ||| ((1 : Int32) <<< (v1 &&& 31))))]))
  refine OGo.step (fun uK kK => XS.istoreN X0.here hx rfl (hb hby d1_28) rfl (l' := #[.val (.ref a), .val (.int ((0 : Int32) ||| ((1 : Int32) <<< (v1 &&& 31)))), .val (.ref a), .val (.int (2 : Int32)), .val (.int (0 : Int32)), .val (.int v1)]) rfl kK) ?_
  show OGo p e below _ (s₁.setTop (mkF m 29 #[.val (.ref a), .val (.int ((0 : Int32) ||| ((1 : Int32) <<< (v1 &&& 31)))), .val (.ref a), .val (.int (2 : Int32)), .val (.int (0 : Int32)), .val (.int v1)] []))
  refine OGo.step (fun uK kK => XS.iinc X0.here hx rfl (hb hby d1_29) rfl (l' := #[.val (.ref a), .val (.int ((0 : Int32) ||| ((1 : Int32) <<< (v1 &&& 31)))), .val (.ref a), .val (.int (2 : Int32)), .val (.int (1 : Int32)), .val (.int v1)]) rfl kK) ?_
  show OGo p e below _ (s₁.setTop (mkF m 32 #[.val (.ref a), .val (.int ((0 : Int32) ||| ((1 : Int32) <<< (v1 &&& 31)))), .val (.ref a), .val (.int (2 : Int32)), .val (.int (1 : Int32)), .val (.int v1)] []))
  refine OGo.step (fun uK kK => XS.goto X0.here hx rfl (pc0 := 32) (pc' := 10) rfl (hb hby d1_32) (by decide) (by decide) kK) ?_
  show OGo p e below _ (s₁.setTop (mkF m 10 #[.val (.ref a), .val (.int ((0 : Int32) ||| ((1 : Int32) <<< (v1 &&& 31)))), .val (.ref a), .val (.int (2 : Int32)), .val (.int (1 : Int32)), .val (.int v1)] []))
  refine OGo.step (fun uK kK => XS.iload X0.here hx rfl (hb hby d1_10) rfl kK) ?_
  show OGo p e below _ (s₁.setTop (mkF m 12 #[.val (.ref a), .val (.int ((0 : Int32) ||| ((1 : Int32) <<< (v1 &&& 31)))), .val (.ref a), .val (.int (2 : Int32)), .val (.int (1 : Int32)), .val (.int v1)] [(.int (1 : Int32))]))
  refine OGo.step (fun uK kK => XS.iloadN X0.here hx rfl (hb hby d1_12) rfl kK) ?_
  show OGo p e below _ (s₁.setTop (mkF m 13 #[.val (.ref a), .val (.int ((0 : Int32) ||| ((1 : Int32) <<< (v1 &&& 31)))), .val (.ref a), .val (.int (2 : Int32)), .val (.int (1 : Int32)), .val (.int v1)] [(.int (2 : Int32)), (.int (1 : Int32))]))
  have hc13 : (1 : Int32) < (2 : Int32) := by decide
  refine OGo.step (fun uK kK => XS.icmpNo X0.here hx rfl (hb hby d1_13) rfl (tlt hc13).2.1 kK) ?_
  show OGo p e below _ (s₁.setTop (mkF m 16 #[.val (.ref a), .val (.int ((0 : Int32) ||| ((1 : Int32) <<< (v1 &&& 31)))), .val (.ref a), .val (.int (2 : Int32)), .val (.int (1 : Int32)), .val (.int v1)] []))
  refine OGo.step (fun uK kK => XS.aloadN X0.here hx rfl (hb hby d1_16) rfl rfl kK) ?_
  show OGo p e below _ (s₁.setTop (mkF m 17 #[.val (.ref a), .val (.int ((0 : Int32) ||| ((1 : Int32) <<< (v1 &&& 31)))), .val (.ref a), .val (.int (2 : Int32)), .val (.int (1 : Int32)), .val (.int v1)] [(.ref a)]))
  refine OGo.step (fun uK kK => XS.iload X0.here hx rfl (hb hby d1_17) rfl kK) ?_
  show OGo p e below _ (s₁.setTop (mkF m 19 #[.val (.ref a), .val (.int ((0 : Int32) ||| ((1 : Int32) <<< (v1 &&& 31)))), .val (.ref a), .val (.int (2 : Int32)), .val (.int (1 : Int32)), .val (.int v1)] [(.int (1 : Int32)), (.ref a)]))
  obtain ⟨cl3, Ar3, q3, S3, M3, H3, G3⟩ := id Va
  have hin3 : ¬ ((1 : Int32) < 0 ∨ cl3.slots.size ≤ ((1 : Int32)).toNatClampNeg) := inb_of S3 ⟨by decide, by decide⟩
  have hat3 : cl3.slots[((1 : Int32)).toNatClampNeg]? = some (.int v2) := H3.at hin3 rfl
  refine OGo.step (fun uK kK => X0.saload hx (j := (1 : Int32)) (v := (.int v2)) (by rw [e0]; exact Ar3.1) (State.isArrayOf_alike hZ.alike Ar3.2.1) Ar3.2.2 hin3 hat3 (g := (mkF m 19 #[.val (.ref a), .val (.int ((0 : Int32) ||| ((1 : Int32) <<< (v1 &&& 31)))), .val (.ref a), .val (.int (2 : Int32)), .val (.int (1 : Int32)), .val (.int v1)] [(.int (1 : Int32)), (.ref a)])) rfl rfl (hb hby d1_19) uK kK) ?_
  show OGo p e below _ (s₁.setTop (mkF m 20 #[.val (.ref a), .val (.int ((0 : Int32) ||| ((1 : Int32) <<< (v1 &&& 31)))), .val (.ref a), .val (.int (2 : Int32)), .val (.int (1 : Int32)), .val (.int v1)] [(.int v2)]))
  refine OGo.step (fun uK kK => XS.istore X0.here hx rfl (hb hby d1_20) rfl (l' := #[.val (.ref a), .val (.int ((0 : Int32) ||| ((1 : Int32) <<< (v1 &&& 31)))), .val (.ref a), .val (.int (2 : Int32)), .val (.int (1 : Int32)), .val (.int v2)]) rfl kK) ?_
  show OGo p e below _ (s₁.setTop (mkF m 22 #[.val (.ref a), .val (.int ((0 : Int32) ||| ((1 : Int32) <<< (v1 &&& 31)))), .val (.ref a), .val (.int (2 : Int32)), .val (.int (1 : Int32)), .val (.int v2)] []))
  refine OGo.step (fun uK kK => XS.iloadN X0.here hx rfl (hb hby d1_22) rfl kK) ?_
  show OGo p e below _ (s₁.setTop (mkF m 23 #[.val (.ref a), .val (.int ((0 : Int32) ||| ((1 : Int32) <<< (v1 &&& 31)))), .val (.ref a), .val (.int (2 : Int32)), .val (.int (1 : Int32)), .val (.int v2)] [(.int ((0 : Int32) ||| ((1 : Int32) <<< (v1 &&& 31))))]))
  refine OGo.step (fun uK kK => XS.iconst X0.here hx rfl (hb hby d1_23) kK) ?_
  show OGo p e below _ (s₁.setTop (mkF m 24 #[.val (.ref a), .val (.int ((0 : Int32) ||| ((1 : Int32) <<< (v1 &&& 31)))), .val (.ref a), .val (.int (2 : Int32)), .val (.int (1 : Int32)), .val (.int v2)] [(.int (1 : Int32)), (.int ((0 : Int32) ||| ((1 : Int32) <<< (v1 &&& 31))))]))
  refine OGo.step (fun uK kK => XS.iload X0.here hx rfl (hb hby d1_24) rfl kK) ?_
  show OGo p e below _ (s₁.setTop (mkF m 26 #[.val (.ref a), .val (.int ((0 : Int32) ||| ((1 : Int32) <<< (v1 &&& 31)))), .val (.ref a), .val (.int (2 : Int32)), .val (.int (1 : Int32)), .val (.int v2)] [(.int v2), (.int (1 : Int32)), (.int ((0 : Int32) ||| ((1 : Int32) <<< (v1 &&& 31))))]))
  refine OGo.step (fun uK kK => XS.ishl X0.here hx rfl (hb hby d1_26) rfl kK) ?_
  show OGo p e below _ (s₁.setTop (mkF m 27 #[.val (.ref a), .val (.int ((0 : Int32) ||| ((1 : Int32) <<< (v1 &&& 31)))), .val (.ref a), .val (.int (2 : Int32)), .val (.int (1 : Int32)), .val (.int v2)] [(.int ((1 : Int32) <<< (v2 &&& 31))), (.int ((0 : Int32) ||| ((1 : Int32) <<< (v1 &&& 31))))]))
  refine OGo.step (fun uK kK => XS.ior X0.here hx rfl (hb hby d1_27) rfl kK) ?_
  show OGo p e below _ (s₁.setTop (mkF m 28 #[.val (.ref a), .val (.int ((0 : Int32) ||| ((1 : Int32) <<< (v1 &&& 31)))), .val (.ref a), .val (.int (2 : Int32)), .val (.int (1 : Int32)), .val (.int v2)] [(.int (((0 : Int32) ||| ((1 : Int32) <<< (v1 &&& 31))) ||| ((1 : Int32) <<< (v2 &&& 31))))]))
  refine OGo.step (fun uK kK => XS.istoreN X0.here hx rfl (hb hby d1_28) rfl (l' := #[.val (.ref a), .val (.int (((0 : Int32) ||| ((1 : Int32) <<< (v1 &&& 31))) ||| ((1 : Int32) <<< (v2 &&& 31)))), .val (.ref a), .val (.int (2 : Int32)), .val (.int (1 : Int32)), .val (.int v2)]) rfl kK) ?_
  show OGo p e below _ (s₁.setTop (mkF m 29 #[.val (.ref a), .val (.int (((0 : Int32) ||| ((1 : Int32) <<< (v1 &&& 31))) ||| ((1 : Int32) <<< (v2 &&& 31)))), .val (.ref a), .val (.int (2 : Int32)), .val (.int (1 : Int32)), .val (.int v2)] []))
  refine OGo.step (fun uK kK => XS.iinc X0.here hx rfl (hb hby d1_29) rfl (l' := #[.val (.ref a), .val (.int (((0 : Int32) ||| ((1 : Int32) <<< (v1 &&& 31))) ||| ((1 : Int32) <<< (v2 &&& 31)))), .val (.ref a), .val (.int (2 : Int32)), .val (.int (2 : Int32)), .val (.int v2)]) rfl kK) ?_
  show OGo p e below _ (s₁.setTop (mkF m 32 #[.val (.ref a), .val (.int (((0 : Int32) ||| ((1 : Int32) <<< (v1 &&& 31))) ||| ((1 : Int32) <<< (v2 &&& 31)))), .val (.ref a), .val (.int (2 : Int32)), .val (.int (2 : Int32)), .val (.int v2)] []))
  refine OGo.step (fun uK kK => XS.goto X0.here hx rfl (pc0 := 32) (pc' := 10) rfl (hb hby d1_32) (by decide) (by decide) kK) ?_
  show OGo p e below _ (s₁.setTop (mkF m 10 #[.val (.ref a), .val (.int (((0 : Int32) ||| ((1 : Int32) <<< (v1 &&& 31))) ||| ((1 : Int32) <<< (v2 &&& 31)))), .val (.ref a), .val (.int (2 : Int32)), .val (.int (2 : Int32)), .val (.int v2)] []))
  refine OGo.step (fun uK kK => XS.iload X0.here hx rfl (hb hby d1_10) rfl kK) ?_
  show OGo p e below _ (s₁.setTop (mkF m 12 #[.val (.ref a), .val (.int (((0 : Int32) ||| ((1 : Int32) <<< (v1 &&& 31))) ||| ((1 : Int32) <<< (v2 &&& 31)))), .val (.ref a), .val (.int (2 : Int32)), .val (.int (2 : Int32)), .val (.int v2)] [(.int (2 : Int32))]))
  refine OGo.step (fun uK kK => XS.iloadN X0.here hx rfl (hb hby d1_12) rfl kK) ?_
  show OGo p e below _ (s₁.setTop (mkF m 13 #[.val (.ref a), .val (.int (((0 : Int32) ||| ((1 : Int32) <<< (v1 &&& 31))) ||| ((1 : Int32) <<< (v2 &&& 31)))), .val (.ref a), .val (.int (2 : Int32)), .val (.int (2 : Int32)), .val (.int v2)] [(.int (2 : Int32)), (.int (2 : Int32))]))
  have hc13 : ¬ ((2 : Int32) < (2 : Int32)) := by decide
  refine OGo.step (fun uK kK => XS.icmpYes X0.here hx rfl (pc0 := 13) (pc' := 35) rfl (hb hby d1_13) rfl (flt hc13).2.1 (by decide) (by decide) kK) ?_
  show OGo p e below _ (s₁.setTop (mkF m 35 #[.val (.ref a), .val (.int (((0 : Int32) ||| ((1 : Int32) <<< (v1 &&& 31))) ||| ((1 : Int32) <<< (v2 &&& 31)))), .val (.ref a), .val (.int (2 : Int32)), .val (.int (2 : Int32)), .val (.int v2)] []))
  refine OGo.step (fun uK kK => XS.iloadN X0.here hx rfl (hb hby d1_35) rfl kK) ?_
  show OGo p e below _ (s₁.setTop (mkF m 36 #[.val (.ref a), .val (.int (((0 : Int32) ||| ((1 : Int32) <<< (v1 &&& 31))) ||| ((1 : Int32) <<< (v2 &&& 31)))), .val (.ref a), .val (.int (2 : Int32)), .val (.int (2 : Int32)), .val (.int v2)] [(.int (((0 : Int32) ||| ((1 : Int32) <<< (v1 &&& 31))) ||| ((1 : Int32) <<< (v2 &&& 31))))]))
  exact OGo.retI X0 hx Bd.notSynchronized Bd.returns (hb hby d1_36) (by decide) (by decide) (by show Qz2 Z a kc v1 v2 h0 n0 _ s₁.heap _; rw [e0]; exact ⟨rfl, N0, rfl⟩)
theorem pnz3 : plainName "com/example/hitung/hitung/NodeTypeTest" = true := by first | (simp [plainName, overriddenIn]; done) | decide +kernel
theorem efz3 (m : MethodId) (x0 : Addr) : entryFrame m #[(.ref x0)] 6 = mkF m 0 #[.val (.ref x0), .unset, .unset, .unset, .unset, .unset] [] := by first | (simp [entryFrame, mkF, argsToLocals, Value.category]; done) | rfl
def Qz3 (Z : State) (a : Addr) (kc : ClassId) (v1 : Int32) (v2 : Int32) (v3 : Int32) (h0 : Heap) (n0 : Nat) (v : Option Value) (h : Heap) (L : List Loc) : Prop := v = some (.int ((((0 : Int32) ||| ((1 : Int32) <<< (v1 &&& 31))) ||| ((1 : Int32) <<< (v2 &&& 31))) ||| ((1 : Int32) <<< (v3 &&& 31)))) ∧ Fr n0 L ∧ h = h0
set_option maxRecDepth 65536 in
set_option maxHeartbeats 40000000 in
theorem rmz3 (l : Launch) (Z : State) (a0 : Array Value) (hw : ∀ d ∈ tables_1, d.before a0 Z = true) (ws : List Jvm.Cond) (a : Addr) (kc : ClassId) (v1 : Int32) (v2 : Int32) (v3 : Int32) (h0 : Heap) (n0 : Nat) (Z0 : n0 ≤ h0.size) (Va : Arv Z h0 a kc .short (3 : Int32) [(.int v1), (.int v2), (.int v3)] (.int (0 : Int32))) :
    MetFree l (⟨"com/example/hitung/hitung/NodeTypeTest", "mask", "([S)I"⟩ : MethodName) (head1 (Jvm.Cond.code (⟨"com/example/hitung/hitung/NodeTypeTest", "mask", "([S)I"⟩ : MethodName) prog_64_method_2_code 6 (some .int) :: ws) ({ frames := 0, cells := 0, slots := 0, locals := 0 } : Room)) (fun aQ UQ => aQ = #[(.ref a)] ∧ Z.Warmed39 UQ.vm ∧ UQ.heap = h0) (fun _ _ _ _ _ => True) (fun _ U o U' => ∃ v L, o = .returned v ∧ Qz3 Z a kc v1 v2 v3 h0 n0 v U'.heap L ∧ FrameEnd U o U' L ({ frames := 0, cells := 0, slots := 0, locals := 0 } : Room).cells ({ frames := 0, cells := 0, slots := 0, locals := 0 } : Room).slots) := by
  refine MetFree.of_bodySF (plainFor_of_name pnz3) hisR ?_
  intro p e s m args below meth c s₁ Bd hml0 hP hK
  obtain ⟨rfl, hZ, hh⟩ := hP
  have hx := Bd.exec
  have hby := Bd.bytes
  have hml : c.maxLocals = 6 := hml0
  have hown : s.vm.findClass "com/example/hitung/hitung/NodeTypeTest" = some m.cls := findClass_of_methodNamed Bd.named
  have hnm := (name_of_methodNamed Bd.named Bd.method).1
  have X0 : Stand p l e ({ frames := 0, cells := 0, slots := 0, locals := 0 } : Room) s m #[(.ref a)] below meth c s₁ [] 0 0 := Stand.of_body Bd
  have e0 : s₁.heap = h0 := by rw [← hh, Bd.state]; rfl
  have N0 := Fr.nil n0
  show OGo p e below (OPost s (Qz3 Z a kc v1 v2 v3 h0 n0) ({ frames := 0, cells := 0, slots := 0, locals := 0 } : Room).cells ({ frames := 0, cells := 0, slots := 0, locals := 0 } : Room).slots) (s₁.setTop (entryFrame m #[(.ref a)] 6))
  refine OGo.step (fun uK kK => castTop (efz3 m a) kK) ?_
  show OGo p e below _ (s₁.setTop (mkF m 0 #[.val (.ref a), .unset, .unset, .unset, .unset, .unset] []))
  refine OGo.step (fun uK kK => XS.iconst X0.here hx rfl (hb hby d1_0) kK) ?_
  show OGo p e below _ (s₁.setTop (mkF m 1 #[.val (.ref a), .unset, .unset, .unset, .unset, .unset] [(.int (0 : Int32))]))
  refine OGo.step (fun uK kK => XS.istoreN X0.here hx rfl (hb hby d1_1) rfl (l' := #[.val (.ref a), .val (.int (0 : Int32)), .unset, .unset, .unset, .unset]) rfl kK) ?_
  show OGo p e below _ (s₁.setTop (mkF m 2 #[.val (.ref a), .val (.int (0 : Int32)), .unset, .unset, .unset, .unset] []))
  refine OGo.step (fun uK kK => XS.aloadN X0.here hx rfl (hb hby d1_2) rfl rfl kK) ?_
  show OGo p e below _ (s₁.setTop (mkF m 3 #[.val (.ref a), .val (.int (0 : Int32)), .unset, .unset, .unset, .unset] [(.ref a)]))
  refine OGo.step (fun uK kK => XS.astoreN X0.here hx rfl (hb hby d1_3) rfl rfl (l' := #[.val (.ref a), .val (.int (0 : Int32)), .val (.ref a), .unset, .unset, .unset]) rfl kK) ?_
  show OGo p e below _ (s₁.setTop (mkF m 4 #[.val (.ref a), .val (.int (0 : Int32)), .val (.ref a), .unset, .unset, .unset] []))
  refine OGo.step (fun uK kK => XS.aloadN X0.here hx rfl (hb hby d1_4) rfl rfl kK) ?_
  show OGo p e below _ (s₁.setTop (mkF m 5 #[.val (.ref a), .val (.int (0 : Int32)), .val (.ref a), .unset, .unset, .unset] [(.ref a)]))
  obtain ⟨cl1, Ar1, -, S1, M1, -, -⟩ := id Va
  refine OGo.step (fun uK kK => X0.arraylength hx (by rw [e0]; exact Ar1.1) (State.isArrayOf_alike hZ.alike Ar1.2.1) (g := (mkF m 5 #[.val (.ref a), .val (.int (0 : Int32)), .val (.ref a), .unset, .unset, .unset] [(.ref a)])) rfl rfl (hb hby d1_5) uK kK) ?_
  rw [len_of S1 M1]
  show OGo p e below _ (s₁.setTop (mkF m 6 #[.val (.ref a), .val (.int (0 : Int32)), .val (.ref a), .unset, .unset, .unset] [(.int (3 : Int32))]))
  refine OGo.step (fun uK kK => XS.istoreN X0.here hx rfl (hb hby d1_6) rfl (l' := #[.val (.ref a), .val (.int (0 : Int32)), .val (.ref a), .val (.int (3 : Int32)), .unset, .unset]) rfl kK) ?_
  show OGo p e below _ (s₁.setTop (mkF m 7 #[.val (.ref a), .val (.int (0 : Int32)), .val (.ref a), .val (.int (3 : Int32)), .unset, .unset] []))
  refine OGo.step (fun uK kK => XS.iconst X0.here hx rfl (hb hby d1_7) kK) ?_
  show OGo p e below _ (s₁.setTop (mkF m 8 #[.val (.ref a), .val (.int (0 : Int32)), .val (.ref a), .val (.int (3 : Int32)), .unset, .unset] [(.int (0 : Int32))]))
  refine OGo.step (fun uK kK => XS.istore X0.here hx rfl (hb hby d1_8) rfl (l' := #[.val (.ref a), .val (.int (0 : Int32)), .val (.ref a), .val (.int (3 : Int32)), .val (.int (0 : Int32)), .unset]) rfl kK) ?_
  show OGo p e below _ (s₁.setTop (mkF m 10 #[.val (.ref a), .val (.int (0 : Int32)), .val (.ref a), .val (.int (3 : Int32)), .val (.int (0 : Int32)), .unset] []))
  refine OGo.step (fun uK kK => XS.iload X0.here hx rfl (hb hby d1_10) rfl kK) ?_
  show OGo p e below _ (s₁.setTop (mkF m 12 #[.val (.ref a), .val (.int (0 : Int32)), .val (.ref a), .val (.int (3 : Int32)), .val (.int (0 : Int32)), .unset] [(.int (0 : Int32))]))
  refine OGo.step (fun uK kK => XS.iloadN X0.here hx rfl (hb hby d1_12) rfl kK) ?_
  show OGo p e below _ (s₁.setTop (mkF m 13 #[.val (.ref a), .val (.int (0 : Int32)), .val (.ref a), .val (.int (3 : Int32)), .val (.int (0 : Int32)), .unset] [(.int (3 : Int32)), (.int (0 : Int32))]))
  have hc13 : (0 : Int32) < (3 : Int32) := by decide
  refine OGo.step (fun uK kK => XS.icmpNo X0.here hx rfl (hb hby d1_13) rfl (tlt hc13).2.1 kK) ?_
  show OGo p e below _ (s₁.setTop (mkF m 16 #[.val (.ref a), .val (.int (0 : Int32)), .val (.ref a), .val (.int (3 : Int32)), .val (.int (0 : Int32)), .unset] []))
  refine OGo.step (fun uK kK => XS.aloadN X0.here hx rfl (hb hby d1_16) rfl rfl kK) ?_
  show OGo p e below _ (s₁.setTop (mkF m 17 #[.val (.ref a), .val (.int (0 : Int32)), .val (.ref a), .val (.int (3 : Int32)), .val (.int (0 : Int32)), .unset] [(.ref a)]))
  refine OGo.step (fun uK kK => XS.iload X0.here hx rfl (hb hby d1_17) rfl kK) ?_
  show OGo p e below _ (s₁.setTop (mkF m 19 #[.val (.ref a), .val (.int (0 : Int32)), .val (.ref a), .val (.int (3 : Int32)), .val (.int (0 : Int32)), .unset] [(.int (0 : Int32)), (.ref a)]))
  obtain ⟨cl2, Ar2, q2, S2, M2, H2, G2⟩ := id Va
  have hin2 : ¬ ((0 : Int32) < 0 ∨ cl2.slots.size ≤ ((0 : Int32)).toNatClampNeg) := inb_of S2 ⟨by decide, by decide⟩
  have hat2 : cl2.slots[((0 : Int32)).toNatClampNeg]? = some (.int v1) := H2.at hin2 rfl
  refine OGo.step (fun uK kK => X0.saload hx (j := (0 : Int32)) (v := (.int v1)) (by rw [e0]; exact Ar2.1) (State.isArrayOf_alike hZ.alike Ar2.2.1) Ar2.2.2 hin2 hat2 (g := (mkF m 19 #[.val (.ref a), .val (.int (0 : Int32)), .val (.ref a), .val (.int (3 : Int32)), .val (.int (0 : Int32)), .unset] [(.int (0 : Int32)), (.ref a)])) rfl rfl (hb hby d1_19) uK kK) ?_
  show OGo p e below _ (s₁.setTop (mkF m 20 #[.val (.ref a), .val (.int (0 : Int32)), .val (.ref a), .val (.int (3 : Int32)), .val (.int (0 : Int32)), .unset] [(.int v1)]))
  refine OGo.step (fun uK kK => XS.istore X0.here hx rfl (hb hby d1_20) rfl (l' := #[.val (.ref a), .val (.int (0 : Int32)), .val (.ref a), .val (.int (3 : Int32)), .val (.int (0 : Int32)), .val (.int v1)]) rfl kK) ?_
  show OGo p e below _ (s₁.setTop (mkF m 22 #[.val (.ref a), .val (.int (0 : Int32)), .val (.ref a), .val (.int (3 : Int32)), .val (.int (0 : Int32)), .val (.int v1)] []))
  refine OGo.step (fun uK kK => XS.iloadN X0.here hx rfl (hb hby d1_22) rfl kK) ?_
  show OGo p e below _ (s₁.setTop (mkF m 23 #[.val (.ref a), .val (.int (0 : Int32)), .val (.ref a), .val (.int (3 : Int32)), .val (.int (0 : Int32)), .val (.int v1)] [(.int (0 : Int32))]))
  refine OGo.step (fun uK kK => XS.iconst X0.here hx rfl (hb hby d1_23) kK) ?_
  show OGo p e below _ (s₁.setTop (mkF m 24 #[.val (.ref a), .val (.int (0 : Int32)), .val (.ref a), .val (.int (3 : Int32)), .val (.int (0 : Int32)), .val (.int v1)] [(.int (1 : Int32)), (.int (0 : Int32))]))
  refine OGo.step (fun uK kK => XS.iload X0.here hx rfl (hb hby d1_24) rfl kK) ?_
  show OGo p e below _ (s₁.setTop (mkF m 26 #[.val (.ref a), .val (.int (0 : Int32)), .val (.ref a), .val (.int (3 : Int32)), .val (.int (0 : Int32)), .val (.int v1)] [(.int v1), (.int (1 : Int32)), (.int (0 : Int32))]))
  refine OGo.step (fun uK kK => XS.ishl X0.here hx rfl (hb hby d1_26) rfl kK) ?_
  show OGo p e below _ (s₁.setTop (mkF m 27 #[.val (.ref a), .val (.int (0 : Int32)), .val (.ref a), .val (.int (3 : Int32)), .val (.int (0 : Int32)), .val (.int v1)] [(.int ((1 : Int32) <<< (v1 &&& 31))), (.int (0 : Int32))]))
  refine OGo.step (fun uK kK => XS.ior X0.here hx rfl (hb hby d1_27) rfl kK) ?_
  show OGo p e below _ (s₁.setTop (mkF m 28 #[.val (.ref a), .val (.int (0 : Int32)), .val (.ref a), .val (.int (3 : Int32)), .val (.int (0 : Int32)), .val (.int v1)] [(.int ((0 : Int32) ||| ((1 : Int32) <<< (v1 &&& 31))))]))
  refine OGo.step (fun uK kK => XS.istoreN X0.here hx rfl (hb hby d1_28) rfl (l' := #[.val (.ref a), .val (.int ((0 : Int32) ||| ((1 : Int32) <<< (v1 &&& 31)))), .val (.ref a), .val (.int (3 : Int32)), .val (.int (0 : Int32)), .val (.int v1)]) rfl kK) ?_
  show OGo p e below _ (s₁.setTop (mkF m 29 #[.val (.ref a), .val (.int ((0 : Int32) ||| ((1 : Int32) <<< (v1 &&& 31)))), .val (.ref a), .val (.int (3 : Int32)), .val (.int (0 : Int32)), .val (.int v1)] []))
  refine OGo.step (fun uK kK => XS.iinc X0.here hx rfl (hb hby d1_29) rfl (l' := #[.val (.ref a), .val (.int ((0 : Int32) ||| ((1 : Int32) <<< (v1 &&& 31)))), .val (.ref a), .val (.int (3 : Int32)), .val (.int (1 : Int32)), .val (.int v1)]) rfl kK) ?_
  show OGo p e below _ (s₁.setTop (mkF m 32 #[.val (.ref a), .val (.int ((0 : Int32) ||| ((1 : Int32) <<< (v1 &&& 31)))), .val (.ref a), .val (.int (3 : Int32)), .val (.int (1 : Int32)), .val (.int v1)] []))
  refine OGo.step (fun uK kK => XS.goto X0.here hx rfl (pc0 := 32) (pc' := 10) rfl (hb hby d1_32) (by decide) (by decide) kK) ?_
  show OGo p e below _ (s₁.setTop (mkF m 10 #[.val (.ref a), .val (.int ((0 : Int32) ||| ((1 : Int32) <<< (v1 &&& 31)))), .val (.ref a), .val (.int (3 : Int32)), .val (.int (1 : Int32)), .val (.int v1)] []))
  refine OGo.step (fun uK kK => XS.iload X0.here hx rfl (hb hby d1_10) rfl kK) ?_
  show OGo p e below _ (s₁.setTop (mkF m 12 #[.val (.ref a), .val (.int ((0 : Int32) ||| ((1 : Int32) <<< (v1 &&& 31)))), .val (.ref a), .val (.int (3 : Int32)), .val (.int (1 : Int32)), .val (.int v1)] [(.int (1 : Int32))]))
  refine OGo.step (fun uK kK => XS.iloadN X0.here hx rfl (hb hby d1_12) rfl kK) ?_
  show OGo p e below _ (s₁.setTop (mkF m 13 #[.val (.ref a), .val (.int ((0 : Int32) ||| ((1 : Int32) <<< (v1 &&& 31)))), .val (.ref a), .val (.int (3 : Int32)), .val (.int (1 : Int32)), .val (.int v1)] [(.int (3 : Int32)), (.int (1 : Int32))]))
  have hc13 : (1 : Int32) < (3 : Int32) := by decide
  refine OGo.step (fun uK kK => XS.icmpNo X0.here hx rfl (hb hby d1_13) rfl (tlt hc13).2.1 kK) ?_
  show OGo p e below _ (s₁.setTop (mkF m 16 #[.val (.ref a), .val (.int ((0 : Int32) ||| ((1 : Int32) <<< (v1 &&& 31)))), .val (.ref a), .val (.int (3 : Int32)), .val (.int (1 : Int32)), .val (.int v1)] []))
  refine OGo.step (fun uK kK => XS.aloadN X0.here hx rfl (hb hby d1_16) rfl rfl kK) ?_
  show OGo p e below _ (s₁.setTop (mkF m 17 #[.val (.ref a), .val (.int ((0 : Int32) ||| ((1 : Int32) <<< (v1 &&& 31)))), .val (.ref a), .val (.int (3 : Int32)), .val (.int (1 : Int32)), .val (.int v1)] [(.ref a)]))
  refine OGo.step (fun uK kK => XS.iload X0.here hx rfl (hb hby d1_17) rfl kK) ?_
  show OGo p e below _ (s₁.setTop (mkF m 19 #[.val (.ref a), .val (.int ((0 : Int32) ||| ((1 : Int32) <<< (v1 &&& 31)))), .val (.ref a), .val (.int (3 : Int32)), .val (.int (1 : Int32)), .val (.int v1)] [(.int (1 : Int32)), (.ref a)]))
  obtain ⟨cl3, Ar3, q3, S3, M3, H3, G3⟩ := id Va
  have hin3 : ¬ ((1 : Int32) < 0 ∨ cl3.slots.size ≤ ((1 : Int32)).toNatClampNeg) := inb_of S3 ⟨by decide, by decide⟩
  have hat3 : cl3.slots[((1 : Int32)).toNatClampNeg]? = some (.int v2) := H3.at hin3 rfl
  refine OGo.step (fun uK kK => X0.saload hx (j := (1 : Int32)) (v := (.int v2)) (by rw [e0]; exact Ar3.1) (State.isArrayOf_alike hZ.alike Ar3.2.1) Ar3.2.2 hin3 hat3 (g := (mkF m 19 #[.val (.ref a), .val (.int ((0 : Int32) ||| ((1 : Int32) <<< (v1 &&& 31)))), .val (.ref a), .val (.int (3 : Int32)), .val (.int (1 : Int32)), .val (.int v1)] [(.int (1 : Int32)), (.ref a)])) rfl rfl (hb hby d1_19) uK kK) ?_
  show OGo p e below _ (s₁.setTop (mkF m 20 #[.val (.ref a), .val (.int ((0 : Int32) ||| ((1 : Int32) <<< (v1 &&& 31)))), .val (.ref a), .val (.int (3 : Int32)), .val (.int (1 : Int32)), .val (.int v1)] [(.int v2)]))
  refine OGo.step (fun uK kK => XS.istore X0.here hx rfl (hb hby d1_20) rfl (l' := #[.val (.ref a), .val (.int ((0 : Int32) ||| ((1 : Int32) <<< (v1 &&& 31)))), .val (.ref a), .val (.int (3 : Int32)), .val (.int (1 : Int32)), .val (.int v2)]) rfl kK) ?_
  show OGo p e below _ (s₁.setTop (mkF m 22 #[.val (.ref a), .val (.int ((0 : Int32) ||| ((1 : Int32) <<< (v1 &&& 31)))), .val (.ref a), .val (.int (3 : Int32)), .val (.int (1 : Int32)), .val (.int v2)] []))
  refine OGo.step (fun uK kK => XS.iloadN X0.here hx rfl (hb hby d1_22) rfl kK) ?_
  show OGo p e below _ (s₁.setTop (mkF m 23 #[.val (.ref a), .val (.int ((0 : Int32) ||| ((1 : Int32) <<< (v1 &&& 31)))), .val (.ref a), .val (.int (3 : Int32)), .val (.int (1 : Int32)), .val (.int v2)] [(.int ((0 : Int32) ||| ((1 : Int32) <<< (v1 &&& 31))))]))
  refine OGo.step (fun uK kK => XS.iconst X0.here hx rfl (hb hby d1_23) kK) ?_
  show OGo p e below _ (s₁.setTop (mkF m 24 #[.val (.ref a), .val (.int ((0 : Int32) ||| ((1 : Int32) <<< (v1 &&& 31)))), .val (.ref a), .val (.int (3 : Int32)), .val (.int (1 : Int32)), .val (.int v2)] [(.int (1 : Int32)), (.int ((0 : Int32) ||| ((1 : Int32) <<< (v1 &&& 31))))]))
  refine OGo.step (fun uK kK => XS.iload X0.here hx rfl (hb hby d1_24) rfl kK) ?_
  show OGo p e below _ (s₁.setTop (mkF m 26 #[.val (.ref a), .val (.int ((0 : Int32) ||| ((1 : Int32) <<< (v1 &&& 31)))), .val (.ref a), .val (.int (3 : Int32)), .val (.int (1 : Int32)), .val (.int v2)] [(.int v2), (.int (1 : Int32)), (.int ((0 : Int32) ||| ((1 : Int32) <<< (v1 &&& 31))))]))
  refine OGo.step (fun uK kK => XS.ishl X0.here hx rfl (hb hby d1_26) rfl kK) ?_
  show OGo p e below _ (s₁.setTop (mkF m 27 #[.val (.ref a), .val (.int ((0 : Int32) ||| ((1 : Int32) <<< (v1 &&& 31)))), .val (.ref a), .val (.int (3 : Int32)), .val (.int (1 : Int32)), .val (.int v2)] [(.int ((1 : Int32) <<< (v2 &&& 31))), (.int ((0 : Int32) ||| ((1 : Int32) <<< (v1 &&& 31))))]))
  refine OGo.step (fun uK kK => XS.ior X0.here hx rfl (hb hby d1_27) rfl kK) ?_
  show OGo p e below _ (s₁.setTop (mkF m 28 #[.val (.ref a), .val (.int ((0 : Int32) ||| ((1 : Int32) <<< (v1 &&& 31)))), .val (.ref a), .val (.int (3 : Int32)), .val (.int (1 : Int32)), .val (.int v2)] [(.int (((0 : Int32) ||| ((1 : Int32) <<< (v1 &&& 31))) ||| ((1 : Int32) <<< (v2 &&& 31))))]))
  refine OGo.step (fun uK kK => XS.istoreN X0.here hx rfl (hb hby d1_28) rfl (l' := #[.val (.ref a), .val (.int (((0 : Int32) ||| ((1 : Int32) <<< (v1 &&& 31))) ||| ((1 : Int32) <<< (v2 &&& 31)))), .val (.ref a), .val (.int (3 : Int32)), .val (.int (1 : Int32)), .val (.int v2)]) rfl kK) ?_
  show OGo p e below _ (s₁.setTop (mkF m 29 #[.val (.ref a), .val (.int (((0 : Int32) ||| ((1 : Int32) <<< (v1 &&& 31))) ||| ((1 : Int32) <<< (v2 &&& 31)))), .val (.ref a), .val (.int (3 : Int32)), .val (.int (1 : Int32)), .val (.int v2)] []))
  refine OGo.step (fun uK kK => XS.iinc X0.here hx rfl (hb hby d1_29) rfl (l' := #[.val (.ref a), .val (.int (((0 : Int32) ||| ((1 : Int32) <<< (v1 &&& 31))) ||| ((1 : Int32) <<< (v2 &&& 31)))), .val (.ref a), .val (.int (3 : Int32)), .val (.int (2 : Int32)), .val (.int v2)]) rfl kK) ?_
  show OGo p e below _ (s₁.setTop (mkF m 32 #[.val (.ref a), .val (.int (((0 : Int32) ||| ((1 : Int32) <<< (v1 &&& 31))) ||| ((1 : Int32) <<< (v2 &&& 31)))), .val (.ref a), .val (.int (3 : Int32)), .val (.int (2 : Int32)), .val (.int v2)] []))
  refine OGo.step (fun uK kK => XS.goto X0.here hx rfl (pc0 := 32) (pc' := 10) rfl (hb hby d1_32) (by decide) (by decide) kK) ?_
  show OGo p e below _ (s₁.setTop (mkF m 10 #[.val (.ref a), .val (.int (((0 : Int32) ||| ((1 : Int32) <<< (v1 &&& 31))) ||| ((1 : Int32) <<< (v2 &&& 31)))), .val (.ref a), .val (.int (3 : Int32)), .val (.int (2 : Int32)), .val (.int v2)] []))
  refine OGo.step (fun uK kK => XS.iload X0.here hx rfl (hb hby d1_10) rfl kK) ?_
  show OGo p e below _ (s₁.setTop (mkF m 12 #[.val (.ref a), .val (.int (((0 : Int32) ||| ((1 : Int32) <<< (v1 &&& 31))) ||| ((1 : Int32) <<< (v2 &&& 31)))), .val (.ref a), .val (.int (3 : Int32)), .val (.int (2 : Int32)), .val (.int v2)] [(.int (2 : Int32))]))
  refine OGo.step (fun uK kK => XS.iloadN X0.here hx rfl (hb hby d1_12) rfl kK) ?_
  show OGo p e below _ (s₁.setTop (mkF m 13 #[.val (.ref a), .val (.int (((0 : Int32) ||| ((1 : Int32) <<< (v1 &&& 31))) ||| ((1 : Int32) <<< (v2 &&& 31)))), .val (.ref a), .val (.int (3 : Int32)), .val (.int (2 : Int32)), .val (.int v2)] [(.int (3 : Int32)), (.int (2 : Int32))]))
  have hc13 : (2 : Int32) < (3 : Int32) := by decide
  refine OGo.step (fun uK kK => XS.icmpNo X0.here hx rfl (hb hby d1_13) rfl (tlt hc13).2.1 kK) ?_
  show OGo p e below _ (s₁.setTop (mkF m 16 #[.val (.ref a), .val (.int (((0 : Int32) ||| ((1 : Int32) <<< (v1 &&& 31))) ||| ((1 : Int32) <<< (v2 &&& 31)))), .val (.ref a), .val (.int (3 : Int32)), .val (.int (2 : Int32)), .val (.int v2)] []))
  refine OGo.step (fun uK kK => XS.aloadN X0.here hx rfl (hb hby d1_16) rfl rfl kK) ?_
  show OGo p e below _ (s₁.setTop (mkF m 17 #[.val (.ref a), .val (.int (((0 : Int32) ||| ((1 : Int32) <<< (v1 &&& 31))) ||| ((1 : Int32) <<< (v2 &&& 31)))), .val (.ref a), .val (.int (3 : Int32)), .val (.int (2 : Int32)), .val (.int v2)] [(.ref a)]))
  refine OGo.step (fun uK kK => XS.iload X0.here hx rfl (hb hby d1_17) rfl kK) ?_
  show OGo p e below _ (s₁.setTop (mkF m 19 #[.val (.ref a), .val (.int (((0 : Int32) ||| ((1 : Int32) <<< (v1 &&& 31))) ||| ((1 : Int32) <<< (v2 &&& 31)))), .val (.ref a), .val (.int (3 : Int32)), .val (.int (2 : Int32)), .val (.int v2)] [(.int (2 : Int32)), (.ref a)]))
  obtain ⟨cl4, Ar4, q4, S4, M4, H4, G4⟩ := id Va
  have hin4 : ¬ ((2 : Int32) < 0 ∨ cl4.slots.size ≤ ((2 : Int32)).toNatClampNeg) := inb_of S4 ⟨by decide, by decide⟩
  have hat4 : cl4.slots[((2 : Int32)).toNatClampNeg]? = some (.int v3) := H4.at hin4 rfl
  refine OGo.step (fun uK kK => X0.saload hx (j := (2 : Int32)) (v := (.int v3)) (by rw [e0]; exact Ar4.1) (State.isArrayOf_alike hZ.alike Ar4.2.1) Ar4.2.2 hin4 hat4 (g := (mkF m 19 #[.val (.ref a), .val (.int (((0 : Int32) ||| ((1 : Int32) <<< (v1 &&& 31))) ||| ((1 : Int32) <<< (v2 &&& 31)))), .val (.ref a), .val (.int (3 : Int32)), .val (.int (2 : Int32)), .val (.int v2)] [(.int (2 : Int32)), (.ref a)])) rfl rfl (hb hby d1_19) uK kK) ?_
  show OGo p e below _ (s₁.setTop (mkF m 20 #[.val (.ref a), .val (.int (((0 : Int32) ||| ((1 : Int32) <<< (v1 &&& 31))) ||| ((1 : Int32) <<< (v2 &&& 31)))), .val (.ref a), .val (.int (3 : Int32)), .val (.int (2 : Int32)), .val (.int v2)] [(.int v3)]))
  refine OGo.step (fun uK kK => XS.istore X0.here hx rfl (hb hby d1_20) rfl (l' := #[.val (.ref a), .val (.int (((0 : Int32) ||| ((1 : Int32) <<< (v1 &&& 31))) ||| ((1 : Int32) <<< (v2 &&& 31)))), .val (.ref a), .val (.int (3 : Int32)), .val (.int (2 : Int32)), .val (.int v3)]) rfl kK) ?_
  show OGo p e below _ (s₁.setTop (mkF m 22 #[.val (.ref a), .val (.int (((0 : Int32) ||| ((1 : Int32) <<< (v1 &&& 31))) ||| ((1 : Int32) <<< (v2 &&& 31)))), .val (.ref a), .val (.int (3 : Int32)), .val (.int (2 : Int32)), .val (.int v3)] []))
  refine OGo.step (fun uK kK => XS.iloadN X0.here hx rfl (hb hby d1_22) rfl kK) ?_
  show OGo p e below _ (s₁.setTop (mkF m 23 #[.val (.ref a), .val (.int (((0 : Int32) ||| ((1 : Int32) <<< (v1 &&& 31))) ||| ((1 : Int32) <<< (v2 &&& 31)))), .val (.ref a), .val (.int (3 : Int32)), .val (.int (2 : Int32)), .val (.int v3)] [(.int (((0 : Int32) ||| ((1 : Int32) <<< (v1 &&& 31))) ||| ((1 : Int32) <<< (v2 &&& 31))))]))
  refine OGo.step (fun uK kK => XS.iconst X0.here hx rfl (hb hby d1_23) kK) ?_
  show OGo p e below _ (s₁.setTop (mkF m 24 #[.val (.ref a), .val (.int (((0 : Int32) ||| ((1 : Int32) <<< (v1 &&& 31))) ||| ((1 : Int32) <<< (v2 &&& 31)))), .val (.ref a), .val (.int (3 : Int32)), .val (.int (2 : Int32)), .val (.int v3)] [(.int (1 : Int32)), (.int (((0 : Int32) ||| ((1 : Int32) <<< (v1 &&& 31))) ||| ((1 : Int32) <<< (v2 &&& 31))))]))
  refine OGo.step (fun uK kK => XS.iload X0.here hx rfl (hb hby d1_24) rfl kK) ?_
  show OGo p e below _ (s₁.setTop (mkF m 26 #[.val (.ref a), .val (.int (((0 : Int32) ||| ((1 : Int32) <<< (v1 &&& 31))) ||| ((1 : Int32) <<< (v2 &&& 31)))), .val (.ref a), .val (.int (3 : Int32)), .val (.int (2 : Int32)), .val (.int v3)] [(.int v3), (.int (1 : Int32)), (.int (((0 : Int32) ||| ((1 : Int32) <<< (v1 &&& 31))) ||| ((1 : Int32) <<< (v2 &&& 31))))]))
  refine OGo.step (fun uK kK => XS.ishl X0.here hx rfl (hb hby d1_26) rfl kK) ?_
  show OGo p e below _ (s₁.setTop (mkF m 27 #[.val (.ref a), .val (.int (((0 : Int32) ||| ((1 : Int32) <<< (v1 &&& 31))) ||| ((1 : Int32) <<< (v2 &&& 31)))), .val (.ref a), .val (.int (3 : Int32)), .val (.int (2 : Int32)), .val (.int v3)] [(.int ((1 : Int32) <<< (v3 &&& 31))), (.int (((0 : Int32) ||| ((1 : Int32) <<< (v1 &&& 31))) ||| ((1 : Int32) <<< (v2 &&& 31))))]))
  refine OGo.step (fun uK kK => XS.ior X0.here hx rfl (hb hby d1_27) rfl kK) ?_
  show OGo p e below _ (s₁.setTop (mkF m 28 #[.val (.ref a), .val (.int (((0 : Int32) ||| ((1 : Int32) <<< (v1 &&& 31))) ||| ((1 : Int32) <<< (v2 &&& 31)))), .val (.ref a), .val (.int (3 : Int32)), .val (.int (2 : Int32)), .val (.int v3)] [(.int ((((0 : Int32) ||| ((1 : Int32) <<< (v1 &&& 31))) ||| ((1 : Int32) <<< (v2 &&& 31))) ||| ((1 : Int32) <<< (v3 &&& 31))))]))
  refine OGo.step (fun uK kK => XS.istoreN X0.here hx rfl (hb hby d1_28) rfl (l' := #[.val (.ref a), .val (.int ((((0 : Int32) ||| ((1 : Int32) <<< (v1 &&& 31))) ||| ((1 : Int32) <<< (v2 &&& 31))) ||| ((1 : Int32) <<< (v3 &&& 31)))), .val (.ref a), .val (.int (3 : Int32)), .val (.int (2 : Int32)), .val (.int v3)]) rfl kK) ?_
  show OGo p e below _ (s₁.setTop (mkF m 29 #[.val (.ref a), .val (.int ((((0 : Int32) ||| ((1 : Int32) <<< (v1 &&& 31))) ||| ((1 : Int32) <<< (v2 &&& 31))) ||| ((1 : Int32) <<< (v3 &&& 31)))), .val (.ref a), .val (.int (3 : Int32)), .val (.int (2 : Int32)), .val (.int v3)] []))
  refine OGo.step (fun uK kK => XS.iinc X0.here hx rfl (hb hby d1_29) rfl (l' := #[.val (.ref a), .val (.int ((((0 : Int32) ||| ((1 : Int32) <<< (v1 &&& 31))) ||| ((1 : Int32) <<< (v2 &&& 31))) ||| ((1 : Int32) <<< (v3 &&& 31)))), .val (.ref a), .val (.int (3 : Int32)), .val (.int (3 : Int32)), .val (.int v3)]) rfl kK) ?_
  show OGo p e below _ (s₁.setTop (mkF m 32 #[.val (.ref a), .val (.int ((((0 : Int32) ||| ((1 : Int32) <<< (v1 &&& 31))) ||| ((1 : Int32) <<< (v2 &&& 31))) ||| ((1 : Int32) <<< (v3 &&& 31)))), .val (.ref a), .val (.int (3 : Int32)), .val (.int (3 : Int32)), .val (.int v3)] []))
  refine OGo.step (fun uK kK => XS.goto X0.here hx rfl (pc0 := 32) (pc' := 10) rfl (hb hby d1_32) (by decide) (by decide) kK) ?_
  show OGo p e below _ (s₁.setTop (mkF m 10 #[.val (.ref a), .val (.int ((((0 : Int32) ||| ((1 : Int32) <<< (v1 &&& 31))) ||| ((1 : Int32) <<< (v2 &&& 31))) ||| ((1 : Int32) <<< (v3 &&& 31)))), .val (.ref a), .val (.int (3 : Int32)), .val (.int (3 : Int32)), .val (.int v3)] []))
  refine OGo.step (fun uK kK => XS.iload X0.here hx rfl (hb hby d1_10) rfl kK) ?_
  show OGo p e below _ (s₁.setTop (mkF m 12 #[.val (.ref a), .val (.int ((((0 : Int32) ||| ((1 : Int32) <<< (v1 &&& 31))) ||| ((1 : Int32) <<< (v2 &&& 31))) ||| ((1 : Int32) <<< (v3 &&& 31)))), .val (.ref a), .val (.int (3 : Int32)), .val (.int (3 : Int32)), .val (.int v3)] [(.int (3 : Int32))]))
  refine OGo.step (fun uK kK => XS.iloadN X0.here hx rfl (hb hby d1_12) rfl kK) ?_
  show OGo p e below _ (s₁.setTop (mkF m 13 #[.val (.ref a), .val (.int ((((0 : Int32) ||| ((1 : Int32) <<< (v1 &&& 31))) ||| ((1 : Int32) <<< (v2 &&& 31))) ||| ((1 : Int32) <<< (v3 &&& 31)))), .val (.ref a), .val (.int (3 : Int32)), .val (.int (3 : Int32)), .val (.int v3)] [(.int (3 : Int32)), (.int (3 : Int32))]))
  have hc13 : ¬ ((3 : Int32) < (3 : Int32)) := by decide
  refine OGo.step (fun uK kK => XS.icmpYes X0.here hx rfl (pc0 := 13) (pc' := 35) rfl (hb hby d1_13) rfl (flt hc13).2.1 (by decide) (by decide) kK) ?_
  show OGo p e below _ (s₁.setTop (mkF m 35 #[.val (.ref a), .val (.int ((((0 : Int32) ||| ((1 : Int32) <<< (v1 &&& 31))) ||| ((1 : Int32) <<< (v2 &&& 31))) ||| ((1 : Int32) <<< (v3 &&& 31)))), .val (.ref a), .val (.int (3 : Int32)), .val (.int (3 : Int32)), .val (.int v3)] []))
  refine OGo.step (fun uK kK => XS.iloadN X0.here hx rfl (hb hby d1_35) rfl kK) ?_
  show OGo p e below _ (s₁.setTop (mkF m 36 #[.val (.ref a), .val (.int ((((0 : Int32) ||| ((1 : Int32) <<< (v1 &&& 31))) ||| ((1 : Int32) <<< (v2 &&& 31))) ||| ((1 : Int32) <<< (v3 &&& 31)))), .val (.ref a), .val (.int (3 : Int32)), .val (.int (3 : Int32)), .val (.int v3)] [(.int ((((0 : Int32) ||| ((1 : Int32) <<< (v1 &&& 31))) ||| ((1 : Int32) <<< (v2 &&& 31))) ||| ((1 : Int32) <<< (v3 &&& 31))))]))
  exact OGo.retI X0 hx Bd.notSynchronized Bd.returns (hb hby d1_36) (by decide) (by decide) (by show Qz3 Z a kc v1 v2 v3 h0 n0 _ s₁.heap _; rw [e0]; exact ⟨rfl, N0, rfl⟩)
theorem pn0 : plainName "com/example/hitung/hitung/NodeTypeTestMaskPinLaw" = true := by first | (simp [plainName, overriddenIn]; done) | decide +kernel
theorem pd0_0 : parseMethodDescriptor "([S)I" = some ⟨[(.array .short)], some .int⟩ := by decide +kernel
theorem ef0 (m : MethodId) (x0 : Int32) (x1 : Int32) (x2 : Int32) : entryFrame m #[(.int x0), (.int x1), (.int x2)] maxLocals = mkF m 0 #[.val (.int x0), .val (.int x1), .val (.int x2), .unset, .unset, .unset, .unset, .unset, .unset, .unset, .unset, .unset, .unset] [] := by first | (simp [entryFrame, mkF, argsToLocals, Value.category, maxLocals]; done) | rfl
def Q0 (Z : State) (p0 : Int32) (p1 : Int32) (p2 : Int32) (h0 : Heap) (n0 : Nat) (v : Option Value) (h : Heap) (L : List Loc) : Prop := v = some (.int 1) ∧ Fr n0 L
set_option maxRecDepth 65536 in
set_option maxHeartbeats 40000000 in
theorem rm0 (l : Launch) (Z : State) (a0 : Array Value) (hw : ∀ d ∈ tables_1, d.before a0 Z = true) (ws : List Jvm.Cond) (p0 : Int32) (p1 : Int32) (p2 : Int32) (h0 : Heap) (n0 : Nat) (Z0 : n0 ≤ h0.size) :
    MetFree l x (head1 (Jvm.Cond.code x code maxLocals ret :: ws) room_1) (fun aQ UQ => aQ = #[(.int p0), (.int p1), (.int p2)] ∧ Z.Warmed39 UQ.vm ∧ UQ.heap = h0) (fun _ _ _ _ _ => True) (fun _ U o U' => ∃ v L, o = .returned v ∧ Q0 Z p0 p1 p2 h0 n0 v U'.heap L ∧ FrameEnd U o U' L room_1.cells room_1.slots) := by
  refine MetFree.of_bodySF (plainFor_of_name pn0) hisR ?_
  intro p e s m args below meth c s₁ Bd hml0 hP hK
  obtain ⟨rfl, hZ, hh⟩ := hP
  have hx := Bd.exec
  have hby := Bd.bytes
  have hml : c.maxLocals = 13 := hml0
  have hown : s.vm.findClass "com/example/hitung/hitung/NodeTypeTestMaskPinLaw" = some m.cls := findClass_of_methodNamed Bd.named
  have hnm := (name_of_methodNamed Bd.named Bd.method).1
  have X0 : Stand p l e room_1 s m #[(.int p0), (.int p1), (.int p2)] below meth c s₁ [] 0 0 := Stand.of_body Bd
  have e0 : s₁.heap = h0 := by rw [← hh, Bd.state]; rfl
  have N0 := Fr.nil n0
  show OGo p e below (OPost s (Q0 Z p0 p1 p2 h0 n0) room_1.cells room_1.slots) (s₁.setTop (entryFrame m #[(.int p0), (.int p1), (.int p2)] maxLocals))
  refine OGo.step (fun uK kK => castTop (ef0 m p0 p1 p2) kK) ?_
  show OGo p e below _ (s₁.setTop (mkF m 0 #[.val (.int p0), .val (.int p1), .val (.int p2), .unset, .unset, .unset, .unset, .unset, .unset, .unset, .unset, .unset, .unset] []))
  refine OGo.step (fun uK kK => XS.iloadN X0.here hx rfl (hb hby at_0) rfl kK) ?_
  show OGo p e below _ (s₁.setTop (mkF m 1 #[.val (.int p0), .val (.int p1), .val (.int p2), .unset, .unset, .unset, .unset, .unset, .unset, .unset, .unset, .unset, .unset] [(.int p0)]))
  refine OGo.step (fun uK kK => XS.i2s X0.here hx rfl (hb hby at_1) rfl kK) ?_
  show OGo p e below _ (s₁.setTop (mkF m 2 #[.val (.int p0), .val (.int p1), .val (.int p2), .unset, .unset, .unset, .unset, .unset, .unset, .unset, .unset, .unset, .unset] [(.int (p0.toInt16.toInt32))]))
  obtain ⟨sa, ev_sa⟩ : ∃ z : Int32, z = (p0.toInt16.toInt32) := ⟨_, rfl⟩
  rw [← ev_sa]
  show OGo p e below _ (s₁.setTop (mkF m 2 #[.val (.int p0), .val (.int p1), .val (.int p2), .unset, .unset, .unset, .unset, .unset, .unset, .unset, .unset, .unset, .unset] [(.int sa)]))
  refine OGo.step (fun uK kK => XS.istoreN X0.here hx rfl (hb hby at_2) rfl (l' := #[.val (.int p0), .val (.int p1), .val (.int p2), .val (.int sa), .unset, .unset, .unset, .unset, .unset, .unset, .unset, .unset, .unset]) rfl kK) ?_
  show OGo p e below _ (s₁.setTop (mkF m 3 #[.val (.int p0), .val (.int p1), .val (.int p2), .val (.int sa), .unset, .unset, .unset, .unset, .unset, .unset, .unset, .unset, .unset] []))
  have hsa : nar .short sa = sa := by rw [ev_sa]; exact own_sh _
  refine OGo.step (fun uK kK => XS.iloadN X0.here hx rfl (hb hby at_3) rfl kK) ?_
  show OGo p e below _ (s₁.setTop (mkF m 4 #[.val (.int p0), .val (.int p1), .val (.int p2), .val (.int sa), .unset, .unset, .unset, .unset, .unset, .unset, .unset, .unset, .unset] [(.int p1)]))
  refine OGo.step (fun uK kK => XS.i2s X0.here hx rfl (hb hby at_4) rfl kK) ?_
  show OGo p e below _ (s₁.setTop (mkF m 5 #[.val (.int p0), .val (.int p1), .val (.int p2), .val (.int sa), .unset, .unset, .unset, .unset, .unset, .unset, .unset, .unset, .unset] [(.int (p1.toInt16.toInt32))]))
  obtain ⟨sb, ev_sb⟩ : ∃ z : Int32, z = (p1.toInt16.toInt32) := ⟨_, rfl⟩
  rw [← ev_sb]
  show OGo p e below _ (s₁.setTop (mkF m 5 #[.val (.int p0), .val (.int p1), .val (.int p2), .val (.int sa), .unset, .unset, .unset, .unset, .unset, .unset, .unset, .unset, .unset] [(.int sb)]))
  refine OGo.step (fun uK kK => XS.istore X0.here hx rfl (hb hby at_5) rfl (l' := #[.val (.int p0), .val (.int p1), .val (.int p2), .val (.int sa), .val (.int sb), .unset, .unset, .unset, .unset, .unset, .unset, .unset, .unset]) rfl kK) ?_
  show OGo p e below _ (s₁.setTop (mkF m 7 #[.val (.int p0), .val (.int p1), .val (.int p2), .val (.int sa), .val (.int sb), .unset, .unset, .unset, .unset, .unset, .unset, .unset, .unset] []))
  have hsb : nar .short sb = sb := by rw [ev_sb]; exact own_sh _
  refine OGo.step (fun uK kK => XS.iloadN X0.here hx rfl (hb hby at_7) rfl kK) ?_
  show OGo p e below _ (s₁.setTop (mkF m 8 #[.val (.int p0), .val (.int p1), .val (.int p2), .val (.int sa), .val (.int sb), .unset, .unset, .unset, .unset, .unset, .unset, .unset, .unset] [(.int p2)]))
  refine OGo.step (fun uK kK => XS.i2s X0.here hx rfl (hb hby at_8) rfl kK) ?_
  show OGo p e below _ (s₁.setTop (mkF m 9 #[.val (.int p0), .val (.int p1), .val (.int p2), .val (.int sa), .val (.int sb), .unset, .unset, .unset, .unset, .unset, .unset, .unset, .unset] [(.int (p2.toInt16.toInt32))]))
  obtain ⟨sc, ev_sc⟩ : ∃ z : Int32, z = (p2.toInt16.toInt32) := ⟨_, rfl⟩
  rw [← ev_sc]
  show OGo p e below _ (s₁.setTop (mkF m 9 #[.val (.int p0), .val (.int p1), .val (.int p2), .val (.int sa), .val (.int sb), .unset, .unset, .unset, .unset, .unset, .unset, .unset, .unset] [(.int sc)]))
  refine OGo.step (fun uK kK => XS.istore X0.here hx rfl (hb hby at_9) rfl (l' := #[.val (.int p0), .val (.int p1), .val (.int p2), .val (.int sa), .val (.int sb), .val (.int sc), .unset, .unset, .unset, .unset, .unset, .unset, .unset]) rfl kK) ?_
  show OGo p e below _ (s₁.setTop (mkF m 11 #[.val (.int p0), .val (.int p1), .val (.int p2), .val (.int sa), .val (.int sb), .val (.int sc), .unset, .unset, .unset, .unset, .unset, .unset, .unset] []))
  have hsc : nar .short sc = sc := by rw [ev_sc]; exact own_sh _
  refine OGo.step (fun uK kK => XS.iconst X0.here hx rfl (hb hby at_11) kK) ?_
  show OGo p e below _ (s₁.setTop (mkF m 12 #[.val (.int p0), .val (.int p1), .val (.int p2), .val (.int sa), .val (.int sb), .val (.int sc), .unset, .unset, .unset, .unset, .unset, .unset, .unset] [(.int (1 : Int32))]))
  refine OGo.step (fun uK kK => XS.iloadN X0.here hx rfl (hb hby at_12) rfl kK) ?_
  show OGo p e below _ (s₁.setTop (mkF m 13 #[.val (.int p0), .val (.int p1), .val (.int p2), .val (.int sa), .val (.int sb), .val (.int sc), .unset, .unset, .unset, .unset, .unset, .unset, .unset] [(.int sa), (.int (1 : Int32))]))
  refine OGo.step (fun uK kK => XS.ishl X0.here hx rfl (hb hby at_13) rfl kK) ?_
  show OGo p e below _ (s₁.setTop (mkF m 14 #[.val (.int p0), .val (.int p1), .val (.int p2), .val (.int sa), .val (.int sb), .val (.int sc), .unset, .unset, .unset, .unset, .unset, .unset, .unset] [(.int ((1 : Int32) <<< (sa &&& 31)))]))
  obtain ⟨ba, ev_ba⟩ : ∃ z : Int32, z = ((1 : Int32) <<< (sa &&& 31)) := ⟨_, rfl⟩
  rw [← ev_ba]
  show OGo p e below _ (s₁.setTop (mkF m 14 #[.val (.int p0), .val (.int p1), .val (.int p2), .val (.int sa), .val (.int sb), .val (.int sc), .unset, .unset, .unset, .unset, .unset, .unset, .unset] [(.int ba)]))
  refine OGo.step (fun uK kK => XS.istore X0.here hx rfl (hb hby at_14) rfl (l' := #[.val (.int p0), .val (.int p1), .val (.int p2), .val (.int sa), .val (.int sb), .val (.int sc), .val (.int ba), .unset, .unset, .unset, .unset, .unset, .unset]) rfl kK) ?_
  show OGo p e below _ (s₁.setTop (mkF m 16 #[.val (.int p0), .val (.int p1), .val (.int p2), .val (.int sa), .val (.int sb), .val (.int sc), .val (.int ba), .unset, .unset, .unset, .unset, .unset, .unset] []))
  refine OGo.step (fun uK kK => XS.iconst X0.here hx rfl (hb hby at_16) kK) ?_
  show OGo p e below _ (s₁.setTop (mkF m 17 #[.val (.int p0), .val (.int p1), .val (.int p2), .val (.int sa), .val (.int sb), .val (.int sc), .val (.int ba), .unset, .unset, .unset, .unset, .unset, .unset] [(.int (1 : Int32))]))
  refine OGo.step (fun uK kK => XS.iload X0.here hx rfl (hb hby at_17) rfl kK) ?_
  show OGo p e below _ (s₁.setTop (mkF m 19 #[.val (.int p0), .val (.int p1), .val (.int p2), .val (.int sa), .val (.int sb), .val (.int sc), .val (.int ba), .unset, .unset, .unset, .unset, .unset, .unset] [(.int sb), (.int (1 : Int32))]))
  refine OGo.step (fun uK kK => XS.ishl X0.here hx rfl (hb hby at_19) rfl kK) ?_
  show OGo p e below _ (s₁.setTop (mkF m 20 #[.val (.int p0), .val (.int p1), .val (.int p2), .val (.int sa), .val (.int sb), .val (.int sc), .val (.int ba), .unset, .unset, .unset, .unset, .unset, .unset] [(.int ((1 : Int32) <<< (sb &&& 31)))]))
  obtain ⟨bb, ev_bb⟩ : ∃ z : Int32, z = ((1 : Int32) <<< (sb &&& 31)) := ⟨_, rfl⟩
  rw [← ev_bb]
  show OGo p e below _ (s₁.setTop (mkF m 20 #[.val (.int p0), .val (.int p1), .val (.int p2), .val (.int sa), .val (.int sb), .val (.int sc), .val (.int ba), .unset, .unset, .unset, .unset, .unset, .unset] [(.int bb)]))
  refine OGo.step (fun uK kK => XS.istore X0.here hx rfl (hb hby at_20) rfl (l' := #[.val (.int p0), .val (.int p1), .val (.int p2), .val (.int sa), .val (.int sb), .val (.int sc), .val (.int ba), .val (.int bb), .unset, .unset, .unset, .unset, .unset]) rfl kK) ?_
  show OGo p e below _ (s₁.setTop (mkF m 22 #[.val (.int p0), .val (.int p1), .val (.int p2), .val (.int sa), .val (.int sb), .val (.int sc), .val (.int ba), .val (.int bb), .unset, .unset, .unset, .unset, .unset] []))
  refine OGo.step (fun uK kK => XS.iconst X0.here hx rfl (hb hby at_22) kK) ?_
  show OGo p e below _ (s₁.setTop (mkF m 23 #[.val (.int p0), .val (.int p1), .val (.int p2), .val (.int sa), .val (.int sb), .val (.int sc), .val (.int ba), .val (.int bb), .unset, .unset, .unset, .unset, .unset] [(.int (1 : Int32))]))
  refine OGo.step (fun uK kK => XS.iload X0.here hx rfl (hb hby at_23) rfl kK) ?_
  show OGo p e below _ (s₁.setTop (mkF m 25 #[.val (.int p0), .val (.int p1), .val (.int p2), .val (.int sa), .val (.int sb), .val (.int sc), .val (.int ba), .val (.int bb), .unset, .unset, .unset, .unset, .unset] [(.int sc), (.int (1 : Int32))]))
  refine OGo.step (fun uK kK => XS.ishl X0.here hx rfl (hb hby at_25) rfl kK) ?_
  show OGo p e below _ (s₁.setTop (mkF m 26 #[.val (.int p0), .val (.int p1), .val (.int p2), .val (.int sa), .val (.int sb), .val (.int sc), .val (.int ba), .val (.int bb), .unset, .unset, .unset, .unset, .unset] [(.int ((1 : Int32) <<< (sc &&& 31)))]))
  obtain ⟨bc, ev_bc⟩ : ∃ z : Int32, z = ((1 : Int32) <<< (sc &&& 31)) := ⟨_, rfl⟩
  rw [← ev_bc]
  show OGo p e below _ (s₁.setTop (mkF m 26 #[.val (.int p0), .val (.int p1), .val (.int p2), .val (.int sa), .val (.int sb), .val (.int sc), .val (.int ba), .val (.int bb), .unset, .unset, .unset, .unset, .unset] [(.int bc)]))
  refine OGo.step (fun uK kK => XS.istore X0.here hx rfl (hb hby at_26) rfl (l' := #[.val (.int p0), .val (.int p1), .val (.int p2), .val (.int sa), .val (.int sb), .val (.int sc), .val (.int ba), .val (.int bb), .val (.int bc), .unset, .unset, .unset, .unset]) rfl kK) ?_
  show OGo p e below _ (s₁.setTop (mkF m 28 #[.val (.int p0), .val (.int p1), .val (.int p2), .val (.int sa), .val (.int sb), .val (.int sc), .val (.int ba), .val (.int bb), .val (.int bc), .unset, .unset, .unset, .unset] []))
  refine OGo.step (fun uK kK => XS.iconst X0.here hx rfl (hb hby at_28) kK) ?_
  show OGo p e below _ (s₁.setTop (mkF m 29 #[.val (.int p0), .val (.int p1), .val (.int p2), .val (.int sa), .val (.int sb), .val (.int sc), .val (.int ba), .val (.int bb), .val (.int bc), .unset, .unset, .unset, .unset] [(.int (0 : Int32))]))
  obtain ⟨T1, h1, ki1, X1, e1, E1, A1, st1⟩ := newP X0 hx hZ (hw _ (List.mem_of_getElem? (i := 0) rfl)) e0 (g := (mkF m 29 #[.val (.int p0), .val (.int p1), .val (.int p2), .val (.int sa), .val (.int sb), .val (.int sc), .val (.int ba), .val (.int bb), .val (.int bc), .unset, .unset, .unset, .unset] [(.int (0 : Int32))])) rfl (hb hby at_29) rfl (by decide) (cap := 0) (by decide) (by decide) (by decide) (by decide)
  obtain ⟨b1, g1⟩ : ∃ z, z = h0.size := ⟨_, rfl⟩
  rw [← g1] at A1 st1
  have gn_b1 : n0 ≤ b1 := Nat.le_trans Z0 (Nat.le_of_eq g1.symm)
  have sz_b1 : h0.size ≤ b1 := Nat.le_trans (Keep.refl h0 []).1 (Nat.le_of_eq g1.symm)
  have ZS1 : n0 ≤ h1.size := Nat.le_trans Z0 E1.1
  have KC1 : Keep h0 h1 [] := (Keep.refl h0 []).ext E1
  have V_b1 : Arv Z h1 b1 ki1 .short (0 : Int32) [] (.int (0 : Int32)) := Arv.new A1 (by decide)
  refine OGo.step (fun uK kK => st1 uK kK) ?_
  show OGo p e below _ (T1.setTop (mkF m 31 #[.val (.int p0), .val (.int p1), .val (.int p2), .val (.int sa), .val (.int sb), .val (.int sc), .val (.int ba), .val (.int bb), .val (.int bc), .unset, .unset, .unset, .unset] [(.ref b1)]))
  obtain ⟨_, _, ⟨T2, Lq2, kq_2, nq_2⟩, -, X2, ⟨Lc2, hQ2, lq2, yq2, zq2⟩, st2⟩ := Jvm.LawKit.callS X1 hx (y := (⟨"com/example/hitung/hitung/NodeTypeTest", "mask", "([S)I"⟩ : MethodName)) hown (mvT hZ (hw _ (List.mem_of_getElem? (i := 1) rfl))) (mvT hZ (hw _ (List.mem_of_getElem? (i := 2) rfl))) (mvT hZ (hw _ (List.mem_of_getElem? (i := 3) rfl))) (mvT hZ (hw _ (List.mem_of_getElem? (i := 4) rfl))) (by decide) (backOf (W := 0) (rmz0 l Z a0 hw [] b1 ki1 h1 n0 ZS1 V_b1) hZ (hw _ (List.mem_of_getElem? (i := 4) rfl)) (hw _ (List.mem_of_getElem? (i := 3) rfl)) (by decide) (by decide)) (g := (mkF m 31 #[.val (.int p0), .val (.int p1), .val (.int p2), .val (.int sa), .val (.int sb), .val (.int sc), .val (.int ba), .val (.int bb), .val (.int bc), .unset, .unset, .unset, .unset] [(.ref b1)])) rfl (by rw [hml]; rfl) (argsL := [(.ref b1)]) (rest := []) (lenOf pd0_0 rfl) rfl (by show 2 * 0 + _ ≤ _; exact Nat.le_of_eq rfl) (hb hby at_31) (fun _ _ => ⟨rfl, e1, (by decide : 1 + 0 ≤ _), (by decide : 0 + 0 ≤ _)⟩)
  dsimp only [Pt.U, Pt.locs, Pt.cells, Pt.slots] at X2 lq2 yq2 zq2 st2 hQ2
  subst lq2 yq2 zq2
  obtain ⟨rfl, Nq2, e2⟩ := hQ2
  have N2 := Fr.app N0 Nq2
  refine OGo.step (fun uK kK => st2 uK kK) ?_
  show OGo p e below _ (T2.setTop (mkF m 34 #[.val (.int p0), .val (.int p1), .val (.int p2), .val (.int sa), .val (.int sb), .val (.int sc), .val (.int ba), .val (.int bb), .val (.int bc), .unset, .unset, .unset, .unset] [(.int (0 : Int32))]))
  refine OGo.step (fun uK kK => XS.istore X2.here hx rfl (hb hby at_34) rfl (l' := #[.val (.int p0), .val (.int p1), .val (.int p2), .val (.int sa), .val (.int sb), .val (.int sc), .val (.int ba), .val (.int bb), .val (.int bc), .val (.int (0 : Int32)), .unset, .unset, .unset]) rfl kK) ?_
  show OGo p e below _ (T2.setTop (mkF m 36 #[.val (.int p0), .val (.int p1), .val (.int p2), .val (.int sa), .val (.int sb), .val (.int sc), .val (.int ba), .val (.int bb), .val (.int bc), .val (.int (0 : Int32)), .unset, .unset, .unset] []))
  refine OGo.step (fun uK kK => XS.iconst X2.here hx rfl (hb hby at_36) kK) ?_
  show OGo p e below _ (T2.setTop (mkF m 37 #[.val (.int p0), .val (.int p1), .val (.int p2), .val (.int sa), .val (.int sb), .val (.int sc), .val (.int ba), .val (.int bb), .val (.int bc), .val (.int (0 : Int32)), .unset, .unset, .unset] [(.int (1 : Int32))]))
  obtain ⟨T3, h3, ki3, X3, e3, E3, A3, st3⟩ := newP X2 hx hZ (hw _ (List.mem_of_getElem? (i := 0) rfl)) e2 (g := (mkF m 37 #[.val (.int p0), .val (.int p1), .val (.int p2), .val (.int sa), .val (.int sb), .val (.int sc), .val (.int ba), .val (.int bb), .val (.int bc), .val (.int (0 : Int32)), .unset, .unset, .unset] [(.int (1 : Int32))])) rfl (hb hby at_37) rfl (by decide) (cap := 1) (by decide) (by decide) (by decide) (by decide)
  obtain ⟨b3, g3⟩ : ∃ z, z = h1.size := ⟨_, rfl⟩
  rw [← g3] at A3 st3
  have gn_b3 : n0 ≤ b3 := Nat.le_trans ZS1 (Nat.le_of_eq g3.symm)
  have sz_b3 : h0.size ≤ b3 := Nat.le_trans KC1.1 (Nat.le_of_eq g3.symm)
  have ZS3 : n0 ≤ h3.size := Nat.le_trans ZS1 E3.1
  have KC3 : Keep h0 h3 [] := KC1.ext E3
  have V_b3 : Arv Z h3 b3 ki3 .short (1 : Int32) [(.int (0 : Int32))] (.int (0 : Int32)) := (Arv.new A3 (by decide)).pad (pad_rep [] (.int (0 : Int32)) 1)
  refine OGo.step (fun uK kK => st3 uK kK) ?_
  show OGo p e below _ (T3.setTop (mkF m 39 #[.val (.int p0), .val (.int p1), .val (.int p2), .val (.int sa), .val (.int sb), .val (.int sc), .val (.int ba), .val (.int bb), .val (.int bc), .val (.int (0 : Int32)), .unset, .unset, .unset] [(.ref b3)]))
  refine OGo.step (fun uK kK => XS.dup X3.here hx rfl (hb hby at_39) rfl rfl kK) ?_
  show OGo p e below _ (T3.setTop (mkF m 40 #[.val (.int p0), .val (.int p1), .val (.int p2), .val (.int sa), .val (.int sb), .val (.int sc), .val (.int ba), .val (.int bb), .val (.int bc), .val (.int (0 : Int32)), .unset, .unset, .unset] [(.ref b3), (.ref b3)]))
  refine OGo.step (fun uK kK => XS.iconst X3.here hx rfl (hb hby at_40) kK) ?_
  show OGo p e below _ (T3.setTop (mkF m 41 #[.val (.int p0), .val (.int p1), .val (.int p2), .val (.int sa), .val (.int sb), .val (.int sc), .val (.int ba), .val (.int bb), .val (.int bc), .val (.int (0 : Int32)), .unset, .unset, .unset] [(.int (0 : Int32)), (.ref b3), (.ref b3)]))
  refine OGo.step (fun uK kK => XS.iloadN X3.here hx rfl (hb hby at_41) rfl kK) ?_
  show OGo p e below _ (T3.setTop (mkF m 42 #[.val (.int p0), .val (.int p1), .val (.int p2), .val (.int sa), .val (.int sb), .val (.int sc), .val (.int ba), .val (.int bb), .val (.int bc), .val (.int (0 : Int32)), .unset, .unset, .unset] [(.int sa), (.int (0 : Int32)), (.ref b3), (.ref b3)]))
  obtain ⟨cl4, Ar4, q4, S4, M4, H4, G4⟩ := id V_b3
  have hin4 : ¬ ((0 : Int32) < 0 ∨ cl4.slots.size ≤ ((0 : Int32)).toNatClampNeg) := inb_of S4 ⟨by decide, by decide⟩
  obtain ⟨T4, h4, X4, e4, W4, st4⟩ := stS X3 hx hZ e3 Ar4 (j := (0 : Int32)) hin4 (g := (mkF m 42 #[.val (.int p0), .val (.int p1), .val (.int p2), .val (.int sa), .val (.int sb), .val (.int sc), .val (.int ba), .val (.int bb), .val (.int bc), .val (.int (0 : Int32)), .unset, .unset, .unset] [(.int sa), (.int (0 : Int32)), (.ref b3), (.ref b3)])) rfl rfl (hb hby at_42)
  have V_b3_4 : Arv Z h4 b3 ki3 .short (1 : Int32) [(.int (nar .short sa))] (.int (0 : Int32)) := Arv.set Ar4 q4 S4 M4 H4 G4 (fits_nar_short _) W4 0 rfl (Nat.le_of_ble_eq_true rfl)
  have ZS4 : n0 ≤ h4.size := Nat.le_trans ZS3 (Keep.of_wr W4).1
  have KC4 : Keep h0 h4 [] := KC3.wr W4 (Or.inr sz_b3)
  have N4 := Fr.snoc X4 N2 gn_b3
  refine OGo.step (fun uK kK => st4 uK kK) ?_
  show OGo p e below _ (T4.setTop (mkF m 43 #[.val (.int p0), .val (.int p1), .val (.int p2), .val (.int sa), .val (.int sb), .val (.int sc), .val (.int ba), .val (.int bb), .val (.int bc), .val (.int (0 : Int32)), .unset, .unset, .unset] [(.ref b3)]))
  obtain ⟨_, _, ⟨T6, Lq6, kq_6, nq_6⟩, -, X6, ⟨Lc6, hQ6, lq6, yq6, zq6⟩, st6⟩ := Jvm.LawKit.callS X4 hx (y := (⟨"com/example/hitung/hitung/NodeTypeTest", "mask", "([S)I"⟩ : MethodName)) hown (mvT hZ (hw _ (List.mem_of_getElem? (i := 1) rfl))) (mvT hZ (hw _ (List.mem_of_getElem? (i := 2) rfl))) (mvT hZ (hw _ (List.mem_of_getElem? (i := 3) rfl))) (mvT hZ (hw _ (List.mem_of_getElem? (i := 4) rfl))) (by decide) (backOf (W := 0) (rmz1 l Z a0 hw [] b3 ki3 (nar .short sa) h4 n0 ZS4 V_b3_4) hZ (hw _ (List.mem_of_getElem? (i := 4) rfl)) (hw _ (List.mem_of_getElem? (i := 3) rfl)) (by decide) (by decide)) (g := (mkF m 43 #[.val (.int p0), .val (.int p1), .val (.int p2), .val (.int sa), .val (.int sb), .val (.int sc), .val (.int ba), .val (.int bb), .val (.int bc), .val (.int (0 : Int32)), .unset, .unset, .unset] [(.ref b3)])) rfl (by rw [hml]; rfl) (argsL := [(.ref b3)]) (rest := []) (lenOf pd0_0 rfl) rfl (by show 2 * 0 + _ ≤ _; exact Nat.le_of_eq rfl) (hb hby at_43) (fun _ _ => ⟨rfl, e4, (by decide : 2 + 0 ≤ _), (by decide : 1 + 0 ≤ _)⟩)
  dsimp only [Pt.U, Pt.locs, Pt.cells, Pt.slots] at X6 lq6 yq6 zq6 st6 hQ6
  subst lq6 yq6 zq6
  obtain ⟨rfl, Nq6, e6⟩ := hQ6
  have N6 := Fr.app N4 Nq6
  refine OGo.step (fun uK kK => st6 uK kK) ?_
  show OGo p e below _ (T6.setTop (mkF m 46 #[.val (.int p0), .val (.int p1), .val (.int p2), .val (.int sa), .val (.int sb), .val (.int sc), .val (.int ba), .val (.int bb), .val (.int bc), .val (.int (0 : Int32)), .unset, .unset, .unset] [(.int ((0 : Int32) ||| ((1 : Int32) <<< ((nar .short sa) &&& 31))))]))
  refine OGo.step (fun uK kK => XS.istore X6.here hx rfl (hb hby at_46) rfl (l' := #[.val (.int p0), .val (.int p1), .val (.int p2), .val (.int sa), .val (.int sb), .val (.int sc), .val (.int ba), .val (.int bb), .val (.int bc), .val (.int (0 : Int32)), .val (.int ((0 : Int32) ||| ((1 : Int32) <<< ((nar .short sa) &&& 31)))), .unset, .unset]) rfl kK) ?_
  show OGo p e below _ (T6.setTop (mkF m 48 #[.val (.int p0), .val (.int p1), .val (.int p2), .val (.int sa), .val (.int sb), .val (.int sc), .val (.int ba), .val (.int bb), .val (.int bc), .val (.int (0 : Int32)), .val (.int ((0 : Int32) ||| ((1 : Int32) <<< ((nar .short sa) &&& 31)))), .unset, .unset] []))
  refine OGo.step (fun uK kK => XS.iconst X6.here hx rfl (hb hby at_48) kK) ?_
  show OGo p e below _ (T6.setTop (mkF m 49 #[.val (.int p0), .val (.int p1), .val (.int p2), .val (.int sa), .val (.int sb), .val (.int sc), .val (.int ba), .val (.int bb), .val (.int bc), .val (.int (0 : Int32)), .val (.int ((0 : Int32) ||| ((1 : Int32) <<< ((nar .short sa) &&& 31)))), .unset, .unset] [(.int (2 : Int32))]))
  obtain ⟨T7, h7, ki7, X7, e7, E7, A7, st7⟩ := newP X6 hx hZ (hw _ (List.mem_of_getElem? (i := 0) rfl)) e6 (g := (mkF m 49 #[.val (.int p0), .val (.int p1), .val (.int p2), .val (.int sa), .val (.int sb), .val (.int sc), .val (.int ba), .val (.int bb), .val (.int bc), .val (.int (0 : Int32)), .val (.int ((0 : Int32) ||| ((1 : Int32) <<< ((nar .short sa) &&& 31)))), .unset, .unset] [(.int (2 : Int32))])) rfl (hb hby at_49) rfl (by decide) (cap := 2) (by decide) (by decide) (by decide) (by decide)
  obtain ⟨b7, g7⟩ : ∃ z, z = h4.size := ⟨_, rfl⟩
  rw [← g7] at A7 st7
  have gn_b7 : n0 ≤ b7 := Nat.le_trans ZS4 (Nat.le_of_eq g7.symm)
  have sz_b7 : h0.size ≤ b7 := Nat.le_trans KC4.1 (Nat.le_of_eq g7.symm)
  have ZS7 : n0 ≤ h7.size := Nat.le_trans ZS4 E7.1
  have KC7 : Keep h0 h7 [] := KC4.ext E7
  have V_b7 : Arv Z h7 b7 ki7 .short (2 : Int32) [(.int (0 : Int32)), (.int (0 : Int32))] (.int (0 : Int32)) := (Arv.new A7 (by decide)).pad (pad_rep [] (.int (0 : Int32)) 2)
  refine OGo.step (fun uK kK => st7 uK kK) ?_
  show OGo p e below _ (T7.setTop (mkF m 51 #[.val (.int p0), .val (.int p1), .val (.int p2), .val (.int sa), .val (.int sb), .val (.int sc), .val (.int ba), .val (.int bb), .val (.int bc), .val (.int (0 : Int32)), .val (.int ((0 : Int32) ||| ((1 : Int32) <<< ((nar .short sa) &&& 31)))), .unset, .unset] [(.ref b7)]))
  refine OGo.step (fun uK kK => XS.dup X7.here hx rfl (hb hby at_51) rfl rfl kK) ?_
  show OGo p e below _ (T7.setTop (mkF m 52 #[.val (.int p0), .val (.int p1), .val (.int p2), .val (.int sa), .val (.int sb), .val (.int sc), .val (.int ba), .val (.int bb), .val (.int bc), .val (.int (0 : Int32)), .val (.int ((0 : Int32) ||| ((1 : Int32) <<< ((nar .short sa) &&& 31)))), .unset, .unset] [(.ref b7), (.ref b7)]))
  refine OGo.step (fun uK kK => XS.iconst X7.here hx rfl (hb hby at_52) kK) ?_
  show OGo p e below _ (T7.setTop (mkF m 53 #[.val (.int p0), .val (.int p1), .val (.int p2), .val (.int sa), .val (.int sb), .val (.int sc), .val (.int ba), .val (.int bb), .val (.int bc), .val (.int (0 : Int32)), .val (.int ((0 : Int32) ||| ((1 : Int32) <<< ((nar .short sa) &&& 31)))), .unset, .unset] [(.int (0 : Int32)), (.ref b7), (.ref b7)]))
  refine OGo.step (fun uK kK => XS.iloadN X7.here hx rfl (hb hby at_53) rfl kK) ?_
  show OGo p e below _ (T7.setTop (mkF m 54 #[.val (.int p0), .val (.int p1), .val (.int p2), .val (.int sa), .val (.int sb), .val (.int sc), .val (.int ba), .val (.int bb), .val (.int bc), .val (.int (0 : Int32)), .val (.int ((0 : Int32) ||| ((1 : Int32) <<< ((nar .short sa) &&& 31)))), .unset, .unset] [(.int sa), (.int (0 : Int32)), (.ref b7), (.ref b7)]))
  obtain ⟨cl8, Ar8, q8, S8, M8, H8, G8⟩ := id V_b7
  have hin8 : ¬ ((0 : Int32) < 0 ∨ cl8.slots.size ≤ ((0 : Int32)).toNatClampNeg) := inb_of S8 ⟨by decide, by decide⟩
  obtain ⟨T8, h8, X8, e8, W8, st8⟩ := stS X7 hx hZ e7 Ar8 (j := (0 : Int32)) hin8 (g := (mkF m 54 #[.val (.int p0), .val (.int p1), .val (.int p2), .val (.int sa), .val (.int sb), .val (.int sc), .val (.int ba), .val (.int bb), .val (.int bc), .val (.int (0 : Int32)), .val (.int ((0 : Int32) ||| ((1 : Int32) <<< ((nar .short sa) &&& 31)))), .unset, .unset] [(.int sa), (.int (0 : Int32)), (.ref b7), (.ref b7)])) rfl rfl (hb hby at_54)
  have V_b7_8 : Arv Z h8 b7 ki7 .short (2 : Int32) [(.int (nar .short sa)), (.int (0 : Int32))] (.int (0 : Int32)) := Arv.set Ar8 q8 S8 M8 H8 G8 (fits_nar_short _) W8 0 rfl (Nat.le_of_ble_eq_true rfl)
  have ZS8 : n0 ≤ h8.size := Nat.le_trans ZS7 (Keep.of_wr W8).1
  have KC8 : Keep h0 h8 [] := KC7.wr W8 (Or.inr sz_b7)
  have N8 := Fr.snoc X8 N6 gn_b7
  refine OGo.step (fun uK kK => st8 uK kK) ?_
  show OGo p e below _ (T8.setTop (mkF m 55 #[.val (.int p0), .val (.int p1), .val (.int p2), .val (.int sa), .val (.int sb), .val (.int sc), .val (.int ba), .val (.int bb), .val (.int bc), .val (.int (0 : Int32)), .val (.int ((0 : Int32) ||| ((1 : Int32) <<< ((nar .short sa) &&& 31)))), .unset, .unset] [(.ref b7)]))
  refine OGo.step (fun uK kK => XS.dup X8.here hx rfl (hb hby at_55) rfl rfl kK) ?_
  show OGo p e below _ (T8.setTop (mkF m 56 #[.val (.int p0), .val (.int p1), .val (.int p2), .val (.int sa), .val (.int sb), .val (.int sc), .val (.int ba), .val (.int bb), .val (.int bc), .val (.int (0 : Int32)), .val (.int ((0 : Int32) ||| ((1 : Int32) <<< ((nar .short sa) &&& 31)))), .unset, .unset] [(.ref b7), (.ref b7)]))
  refine OGo.step (fun uK kK => XS.iconst X8.here hx rfl (hb hby at_56) kK) ?_
  show OGo p e below _ (T8.setTop (mkF m 57 #[.val (.int p0), .val (.int p1), .val (.int p2), .val (.int sa), .val (.int sb), .val (.int sc), .val (.int ba), .val (.int bb), .val (.int bc), .val (.int (0 : Int32)), .val (.int ((0 : Int32) ||| ((1 : Int32) <<< ((nar .short sa) &&& 31)))), .unset, .unset] [(.int (1 : Int32)), (.ref b7), (.ref b7)]))
  refine OGo.step (fun uK kK => XS.iload X8.here hx rfl (hb hby at_57) rfl kK) ?_
  show OGo p e below _ (T8.setTop (mkF m 59 #[.val (.int p0), .val (.int p1), .val (.int p2), .val (.int sa), .val (.int sb), .val (.int sc), .val (.int ba), .val (.int bb), .val (.int bc), .val (.int (0 : Int32)), .val (.int ((0 : Int32) ||| ((1 : Int32) <<< ((nar .short sa) &&& 31)))), .unset, .unset] [(.int sb), (.int (1 : Int32)), (.ref b7), (.ref b7)]))
  obtain ⟨cl10, Ar10, q10, S10, M10, H10, G10⟩ := id V_b7_8
  have hin10 : ¬ ((1 : Int32) < 0 ∨ cl10.slots.size ≤ ((1 : Int32)).toNatClampNeg) := inb_of S10 ⟨by decide, by decide⟩
  obtain ⟨T10, h10, X10, e10, W10, st10⟩ := stS X8 hx hZ e8 Ar10 (j := (1 : Int32)) hin10 (g := (mkF m 59 #[.val (.int p0), .val (.int p1), .val (.int p2), .val (.int sa), .val (.int sb), .val (.int sc), .val (.int ba), .val (.int bb), .val (.int bc), .val (.int (0 : Int32)), .val (.int ((0 : Int32) ||| ((1 : Int32) <<< ((nar .short sa) &&& 31)))), .unset, .unset] [(.int sb), (.int (1 : Int32)), (.ref b7), (.ref b7)])) rfl rfl (hb hby at_59)
  have V_b7_10 : Arv Z h10 b7 ki7 .short (2 : Int32) [(.int (nar .short sa)), (.int (nar .short sb))] (.int (0 : Int32)) := Arv.set Ar10 q10 S10 M10 H10 G10 (fits_nar_short _) W10 1 rfl (Nat.le_of_ble_eq_true rfl)
  have ZS10 : n0 ≤ h10.size := Nat.le_trans ZS8 (Keep.of_wr W10).1
  have KC10 : Keep h0 h10 [] := KC8.wr W10 (Or.inr sz_b7)
  have N10 := Fr.snoc X10 N8 gn_b7
  refine OGo.step (fun uK kK => st10 uK kK) ?_
  show OGo p e below _ (T10.setTop (mkF m 60 #[.val (.int p0), .val (.int p1), .val (.int p2), .val (.int sa), .val (.int sb), .val (.int sc), .val (.int ba), .val (.int bb), .val (.int bc), .val (.int (0 : Int32)), .val (.int ((0 : Int32) ||| ((1 : Int32) <<< ((nar .short sa) &&& 31)))), .unset, .unset] [(.ref b7)]))
  obtain ⟨_, _, ⟨T12, Lq12, kq_12, nq_12⟩, -, X12, ⟨Lc12, hQ12, lq12, yq12, zq12⟩, st12⟩ := Jvm.LawKit.callS X10 hx (y := (⟨"com/example/hitung/hitung/NodeTypeTest", "mask", "([S)I"⟩ : MethodName)) hown (mvT hZ (hw _ (List.mem_of_getElem? (i := 1) rfl))) (mvT hZ (hw _ (List.mem_of_getElem? (i := 2) rfl))) (mvT hZ (hw _ (List.mem_of_getElem? (i := 3) rfl))) (mvT hZ (hw _ (List.mem_of_getElem? (i := 4) rfl))) (by decide) (backOf (W := 0) (rmz2 l Z a0 hw [] b7 ki7 (nar .short sa) (nar .short sb) h10 n0 ZS10 V_b7_10) hZ (hw _ (List.mem_of_getElem? (i := 4) rfl)) (hw _ (List.mem_of_getElem? (i := 3) rfl)) (by decide) (by decide)) (g := (mkF m 60 #[.val (.int p0), .val (.int p1), .val (.int p2), .val (.int sa), .val (.int sb), .val (.int sc), .val (.int ba), .val (.int bb), .val (.int bc), .val (.int (0 : Int32)), .val (.int ((0 : Int32) ||| ((1 : Int32) <<< ((nar .short sa) &&& 31)))), .unset, .unset] [(.ref b7)])) rfl (by rw [hml]; rfl) (argsL := [(.ref b7)]) (rest := []) (lenOf pd0_0 rfl) rfl (by show 2 * 0 + _ ≤ _; exact Nat.le_of_eq rfl) (hb hby at_60) (fun _ _ => ⟨rfl, e10, (by decide : 3 + 0 ≤ _), (by decide : 3 + 0 ≤ _)⟩)
  dsimp only [Pt.U, Pt.locs, Pt.cells, Pt.slots] at X12 lq12 yq12 zq12 st12 hQ12
  subst lq12 yq12 zq12
  obtain ⟨rfl, Nq12, e12⟩ := hQ12
  have N12 := Fr.app N10 Nq12
  refine OGo.step (fun uK kK => st12 uK kK) ?_
  show OGo p e below _ (T12.setTop (mkF m 63 #[.val (.int p0), .val (.int p1), .val (.int p2), .val (.int sa), .val (.int sb), .val (.int sc), .val (.int ba), .val (.int bb), .val (.int bc), .val (.int (0 : Int32)), .val (.int ((0 : Int32) ||| ((1 : Int32) <<< ((nar .short sa) &&& 31)))), .unset, .unset] [(.int (((0 : Int32) ||| ((1 : Int32) <<< ((nar .short sa) &&& 31))) ||| ((1 : Int32) <<< ((nar .short sb) &&& 31))))]))
  refine OGo.step (fun uK kK => XS.istore X12.here hx rfl (hb hby at_63) rfl (l' := #[.val (.int p0), .val (.int p1), .val (.int p2), .val (.int sa), .val (.int sb), .val (.int sc), .val (.int ba), .val (.int bb), .val (.int bc), .val (.int (0 : Int32)), .val (.int ((0 : Int32) ||| ((1 : Int32) <<< ((nar .short sa) &&& 31)))), .val (.int (((0 : Int32) ||| ((1 : Int32) <<< ((nar .short sa) &&& 31))) ||| ((1 : Int32) <<< ((nar .short sb) &&& 31)))), .unset]) rfl kK) ?_
  show OGo p e below _ (T12.setTop (mkF m 65 #[.val (.int p0), .val (.int p1), .val (.int p2), .val (.int sa), .val (.int sb), .val (.int sc), .val (.int ba), .val (.int bb), .val (.int bc), .val (.int (0 : Int32)), .val (.int ((0 : Int32) ||| ((1 : Int32) <<< ((nar .short sa) &&& 31)))), .val (.int (((0 : Int32) ||| ((1 : Int32) <<< ((nar .short sa) &&& 31))) ||| ((1 : Int32) <<< ((nar .short sb) &&& 31)))), .unset] []))
  refine OGo.step (fun uK kK => XS.iconst X12.here hx rfl (hb hby at_65) kK) ?_
  show OGo p e below _ (T12.setTop (mkF m 66 #[.val (.int p0), .val (.int p1), .val (.int p2), .val (.int sa), .val (.int sb), .val (.int sc), .val (.int ba), .val (.int bb), .val (.int bc), .val (.int (0 : Int32)), .val (.int ((0 : Int32) ||| ((1 : Int32) <<< ((nar .short sa) &&& 31)))), .val (.int (((0 : Int32) ||| ((1 : Int32) <<< ((nar .short sa) &&& 31))) ||| ((1 : Int32) <<< ((nar .short sb) &&& 31)))), .unset] [(.int (3 : Int32))]))
  obtain ⟨T13, h13, ki13, X13, e13, E13, A13, st13⟩ := newP X12 hx hZ (hw _ (List.mem_of_getElem? (i := 0) rfl)) e12 (g := (mkF m 66 #[.val (.int p0), .val (.int p1), .val (.int p2), .val (.int sa), .val (.int sb), .val (.int sc), .val (.int ba), .val (.int bb), .val (.int bc), .val (.int (0 : Int32)), .val (.int ((0 : Int32) ||| ((1 : Int32) <<< ((nar .short sa) &&& 31)))), .val (.int (((0 : Int32) ||| ((1 : Int32) <<< ((nar .short sa) &&& 31))) ||| ((1 : Int32) <<< ((nar .short sb) &&& 31)))), .unset] [(.int (3 : Int32))])) rfl (hb hby at_66) rfl (by decide) (cap := 3) (by decide) (by decide) (by decide) (by decide)
  obtain ⟨b13, g13⟩ : ∃ z, z = h10.size := ⟨_, rfl⟩
  rw [← g13] at A13 st13
  have gn_b13 : n0 ≤ b13 := Nat.le_trans ZS10 (Nat.le_of_eq g13.symm)
  have sz_b13 : h0.size ≤ b13 := Nat.le_trans KC10.1 (Nat.le_of_eq g13.symm)
  have ZS13 : n0 ≤ h13.size := Nat.le_trans ZS10 E13.1
  have KC13 : Keep h0 h13 [] := KC10.ext E13
  have V_b13 : Arv Z h13 b13 ki13 .short (3 : Int32) [(.int (0 : Int32)), (.int (0 : Int32)), (.int (0 : Int32))] (.int (0 : Int32)) := (Arv.new A13 (by decide)).pad (pad_rep [] (.int (0 : Int32)) 3)
  refine OGo.step (fun uK kK => st13 uK kK) ?_
  show OGo p e below _ (T13.setTop (mkF m 68 #[.val (.int p0), .val (.int p1), .val (.int p2), .val (.int sa), .val (.int sb), .val (.int sc), .val (.int ba), .val (.int bb), .val (.int bc), .val (.int (0 : Int32)), .val (.int ((0 : Int32) ||| ((1 : Int32) <<< ((nar .short sa) &&& 31)))), .val (.int (((0 : Int32) ||| ((1 : Int32) <<< ((nar .short sa) &&& 31))) ||| ((1 : Int32) <<< ((nar .short sb) &&& 31)))), .unset] [(.ref b13)]))
  refine OGo.step (fun uK kK => XS.dup X13.here hx rfl (hb hby at_68) rfl rfl kK) ?_
  show OGo p e below _ (T13.setTop (mkF m 69 #[.val (.int p0), .val (.int p1), .val (.int p2), .val (.int sa), .val (.int sb), .val (.int sc), .val (.int ba), .val (.int bb), .val (.int bc), .val (.int (0 : Int32)), .val (.int ((0 : Int32) ||| ((1 : Int32) <<< ((nar .short sa) &&& 31)))), .val (.int (((0 : Int32) ||| ((1 : Int32) <<< ((nar .short sa) &&& 31))) ||| ((1 : Int32) <<< ((nar .short sb) &&& 31)))), .unset] [(.ref b13), (.ref b13)]))
  refine OGo.step (fun uK kK => XS.iconst X13.here hx rfl (hb hby at_69) kK) ?_
  show OGo p e below _ (T13.setTop (mkF m 70 #[.val (.int p0), .val (.int p1), .val (.int p2), .val (.int sa), .val (.int sb), .val (.int sc), .val (.int ba), .val (.int bb), .val (.int bc), .val (.int (0 : Int32)), .val (.int ((0 : Int32) ||| ((1 : Int32) <<< ((nar .short sa) &&& 31)))), .val (.int (((0 : Int32) ||| ((1 : Int32) <<< ((nar .short sa) &&& 31))) ||| ((1 : Int32) <<< ((nar .short sb) &&& 31)))), .unset] [(.int (0 : Int32)), (.ref b13), (.ref b13)]))
  refine OGo.step (fun uK kK => XS.iloadN X13.here hx rfl (hb hby at_70) rfl kK) ?_
  show OGo p e below _ (T13.setTop (mkF m 71 #[.val (.int p0), .val (.int p1), .val (.int p2), .val (.int sa), .val (.int sb), .val (.int sc), .val (.int ba), .val (.int bb), .val (.int bc), .val (.int (0 : Int32)), .val (.int ((0 : Int32) ||| ((1 : Int32) <<< ((nar .short sa) &&& 31)))), .val (.int (((0 : Int32) ||| ((1 : Int32) <<< ((nar .short sa) &&& 31))) ||| ((1 : Int32) <<< ((nar .short sb) &&& 31)))), .unset] [(.int sa), (.int (0 : Int32)), (.ref b13), (.ref b13)]))
  obtain ⟨cl14, Ar14, q14, S14, M14, H14, G14⟩ := id V_b13
  have hin14 : ¬ ((0 : Int32) < 0 ∨ cl14.slots.size ≤ ((0 : Int32)).toNatClampNeg) := inb_of S14 ⟨by decide, by decide⟩
  obtain ⟨T14, h14, X14, e14, W14, st14⟩ := stS X13 hx hZ e13 Ar14 (j := (0 : Int32)) hin14 (g := (mkF m 71 #[.val (.int p0), .val (.int p1), .val (.int p2), .val (.int sa), .val (.int sb), .val (.int sc), .val (.int ba), .val (.int bb), .val (.int bc), .val (.int (0 : Int32)), .val (.int ((0 : Int32) ||| ((1 : Int32) <<< ((nar .short sa) &&& 31)))), .val (.int (((0 : Int32) ||| ((1 : Int32) <<< ((nar .short sa) &&& 31))) ||| ((1 : Int32) <<< ((nar .short sb) &&& 31)))), .unset] [(.int sa), (.int (0 : Int32)), (.ref b13), (.ref b13)])) rfl rfl (hb hby at_71)
  have V_b13_14 : Arv Z h14 b13 ki13 .short (3 : Int32) [(.int (nar .short sa)), (.int (0 : Int32)), (.int (0 : Int32))] (.int (0 : Int32)) := Arv.set Ar14 q14 S14 M14 H14 G14 (fits_nar_short _) W14 0 rfl (Nat.le_of_ble_eq_true rfl)
  have ZS14 : n0 ≤ h14.size := Nat.le_trans ZS13 (Keep.of_wr W14).1
  have KC14 : Keep h0 h14 [] := KC13.wr W14 (Or.inr sz_b13)
  have N14 := Fr.snoc X14 N12 gn_b13
  refine OGo.step (fun uK kK => st14 uK kK) ?_
  show OGo p e below _ (T14.setTop (mkF m 72 #[.val (.int p0), .val (.int p1), .val (.int p2), .val (.int sa), .val (.int sb), .val (.int sc), .val (.int ba), .val (.int bb), .val (.int bc), .val (.int (0 : Int32)), .val (.int ((0 : Int32) ||| ((1 : Int32) <<< ((nar .short sa) &&& 31)))), .val (.int (((0 : Int32) ||| ((1 : Int32) <<< ((nar .short sa) &&& 31))) ||| ((1 : Int32) <<< ((nar .short sb) &&& 31)))), .unset] [(.ref b13)]))
  refine OGo.step (fun uK kK => XS.dup X14.here hx rfl (hb hby at_72) rfl rfl kK) ?_
  show OGo p e below _ (T14.setTop (mkF m 73 #[.val (.int p0), .val (.int p1), .val (.int p2), .val (.int sa), .val (.int sb), .val (.int sc), .val (.int ba), .val (.int bb), .val (.int bc), .val (.int (0 : Int32)), .val (.int ((0 : Int32) ||| ((1 : Int32) <<< ((nar .short sa) &&& 31)))), .val (.int (((0 : Int32) ||| ((1 : Int32) <<< ((nar .short sa) &&& 31))) ||| ((1 : Int32) <<< ((nar .short sb) &&& 31)))), .unset] [(.ref b13), (.ref b13)]))
  refine OGo.step (fun uK kK => XS.iconst X14.here hx rfl (hb hby at_73) kK) ?_
  show OGo p e below _ (T14.setTop (mkF m 74 #[.val (.int p0), .val (.int p1), .val (.int p2), .val (.int sa), .val (.int sb), .val (.int sc), .val (.int ba), .val (.int bb), .val (.int bc), .val (.int (0 : Int32)), .val (.int ((0 : Int32) ||| ((1 : Int32) <<< ((nar .short sa) &&& 31)))), .val (.int (((0 : Int32) ||| ((1 : Int32) <<< ((nar .short sa) &&& 31))) ||| ((1 : Int32) <<< ((nar .short sb) &&& 31)))), .unset] [(.int (1 : Int32)), (.ref b13), (.ref b13)]))
  refine OGo.step (fun uK kK => XS.iload X14.here hx rfl (hb hby at_74) rfl kK) ?_
  show OGo p e below _ (T14.setTop (mkF m 76 #[.val (.int p0), .val (.int p1), .val (.int p2), .val (.int sa), .val (.int sb), .val (.int sc), .val (.int ba), .val (.int bb), .val (.int bc), .val (.int (0 : Int32)), .val (.int ((0 : Int32) ||| ((1 : Int32) <<< ((nar .short sa) &&& 31)))), .val (.int (((0 : Int32) ||| ((1 : Int32) <<< ((nar .short sa) &&& 31))) ||| ((1 : Int32) <<< ((nar .short sb) &&& 31)))), .unset] [(.int sb), (.int (1 : Int32)), (.ref b13), (.ref b13)]))
  obtain ⟨cl16, Ar16, q16, S16, M16, H16, G16⟩ := id V_b13_14
  have hin16 : ¬ ((1 : Int32) < 0 ∨ cl16.slots.size ≤ ((1 : Int32)).toNatClampNeg) := inb_of S16 ⟨by decide, by decide⟩
  obtain ⟨T16, h16, X16, e16, W16, st16⟩ := stS X14 hx hZ e14 Ar16 (j := (1 : Int32)) hin16 (g := (mkF m 76 #[.val (.int p0), .val (.int p1), .val (.int p2), .val (.int sa), .val (.int sb), .val (.int sc), .val (.int ba), .val (.int bb), .val (.int bc), .val (.int (0 : Int32)), .val (.int ((0 : Int32) ||| ((1 : Int32) <<< ((nar .short sa) &&& 31)))), .val (.int (((0 : Int32) ||| ((1 : Int32) <<< ((nar .short sa) &&& 31))) ||| ((1 : Int32) <<< ((nar .short sb) &&& 31)))), .unset] [(.int sb), (.int (1 : Int32)), (.ref b13), (.ref b13)])) rfl rfl (hb hby at_76)
  have V_b13_16 : Arv Z h16 b13 ki13 .short (3 : Int32) [(.int (nar .short sa)), (.int (nar .short sb)), (.int (0 : Int32))] (.int (0 : Int32)) := Arv.set Ar16 q16 S16 M16 H16 G16 (fits_nar_short _) W16 1 rfl (Nat.le_of_ble_eq_true rfl)
  have ZS16 : n0 ≤ h16.size := Nat.le_trans ZS14 (Keep.of_wr W16).1
  have KC16 : Keep h0 h16 [] := KC14.wr W16 (Or.inr sz_b13)
  have N16 := Fr.snoc X16 N14 gn_b13
  refine OGo.step (fun uK kK => st16 uK kK) ?_
  show OGo p e below _ (T16.setTop (mkF m 77 #[.val (.int p0), .val (.int p1), .val (.int p2), .val (.int sa), .val (.int sb), .val (.int sc), .val (.int ba), .val (.int bb), .val (.int bc), .val (.int (0 : Int32)), .val (.int ((0 : Int32) ||| ((1 : Int32) <<< ((nar .short sa) &&& 31)))), .val (.int (((0 : Int32) ||| ((1 : Int32) <<< ((nar .short sa) &&& 31))) ||| ((1 : Int32) <<< ((nar .short sb) &&& 31)))), .unset] [(.ref b13)]))
  refine OGo.step (fun uK kK => XS.dup X16.here hx rfl (hb hby at_77) rfl rfl kK) ?_
  show OGo p e below _ (T16.setTop (mkF m 78 #[.val (.int p0), .val (.int p1), .val (.int p2), .val (.int sa), .val (.int sb), .val (.int sc), .val (.int ba), .val (.int bb), .val (.int bc), .val (.int (0 : Int32)), .val (.int ((0 : Int32) ||| ((1 : Int32) <<< ((nar .short sa) &&& 31)))), .val (.int (((0 : Int32) ||| ((1 : Int32) <<< ((nar .short sa) &&& 31))) ||| ((1 : Int32) <<< ((nar .short sb) &&& 31)))), .unset] [(.ref b13), (.ref b13)]))
  refine OGo.step (fun uK kK => XS.iconst X16.here hx rfl (hb hby at_78) kK) ?_
  show OGo p e below _ (T16.setTop (mkF m 79 #[.val (.int p0), .val (.int p1), .val (.int p2), .val (.int sa), .val (.int sb), .val (.int sc), .val (.int ba), .val (.int bb), .val (.int bc), .val (.int (0 : Int32)), .val (.int ((0 : Int32) ||| ((1 : Int32) <<< ((nar .short sa) &&& 31)))), .val (.int (((0 : Int32) ||| ((1 : Int32) <<< ((nar .short sa) &&& 31))) ||| ((1 : Int32) <<< ((nar .short sb) &&& 31)))), .unset] [(.int (2 : Int32)), (.ref b13), (.ref b13)]))
  refine OGo.step (fun uK kK => XS.iload X16.here hx rfl (hb hby at_79) rfl kK) ?_
  show OGo p e below _ (T16.setTop (mkF m 81 #[.val (.int p0), .val (.int p1), .val (.int p2), .val (.int sa), .val (.int sb), .val (.int sc), .val (.int ba), .val (.int bb), .val (.int bc), .val (.int (0 : Int32)), .val (.int ((0 : Int32) ||| ((1 : Int32) <<< ((nar .short sa) &&& 31)))), .val (.int (((0 : Int32) ||| ((1 : Int32) <<< ((nar .short sa) &&& 31))) ||| ((1 : Int32) <<< ((nar .short sb) &&& 31)))), .unset] [(.int sc), (.int (2 : Int32)), (.ref b13), (.ref b13)]))
  obtain ⟨cl18, Ar18, q18, S18, M18, H18, G18⟩ := id V_b13_16
  have hin18 : ¬ ((2 : Int32) < 0 ∨ cl18.slots.size ≤ ((2 : Int32)).toNatClampNeg) := inb_of S18 ⟨by decide, by decide⟩
  obtain ⟨T18, h18, X18, e18, W18, st18⟩ := stS X16 hx hZ e16 Ar18 (j := (2 : Int32)) hin18 (g := (mkF m 81 #[.val (.int p0), .val (.int p1), .val (.int p2), .val (.int sa), .val (.int sb), .val (.int sc), .val (.int ba), .val (.int bb), .val (.int bc), .val (.int (0 : Int32)), .val (.int ((0 : Int32) ||| ((1 : Int32) <<< ((nar .short sa) &&& 31)))), .val (.int (((0 : Int32) ||| ((1 : Int32) <<< ((nar .short sa) &&& 31))) ||| ((1 : Int32) <<< ((nar .short sb) &&& 31)))), .unset] [(.int sc), (.int (2 : Int32)), (.ref b13), (.ref b13)])) rfl rfl (hb hby at_81)
  have V_b13_18 : Arv Z h18 b13 ki13 .short (3 : Int32) [(.int (nar .short sa)), (.int (nar .short sb)), (.int (nar .short sc))] (.int (0 : Int32)) := Arv.set Ar18 q18 S18 M18 H18 G18 (fits_nar_short _) W18 2 rfl (Nat.le_of_ble_eq_true rfl)
  have ZS18 : n0 ≤ h18.size := Nat.le_trans ZS16 (Keep.of_wr W18).1
  have KC18 : Keep h0 h18 [] := KC16.wr W18 (Or.inr sz_b13)
  have N18 := Fr.snoc X18 N16 gn_b13
  refine OGo.step (fun uK kK => st18 uK kK) ?_
  show OGo p e below _ (T18.setTop (mkF m 82 #[.val (.int p0), .val (.int p1), .val (.int p2), .val (.int sa), .val (.int sb), .val (.int sc), .val (.int ba), .val (.int bb), .val (.int bc), .val (.int (0 : Int32)), .val (.int ((0 : Int32) ||| ((1 : Int32) <<< ((nar .short sa) &&& 31)))), .val (.int (((0 : Int32) ||| ((1 : Int32) <<< ((nar .short sa) &&& 31))) ||| ((1 : Int32) <<< ((nar .short sb) &&& 31)))), .unset] [(.ref b13)]))
  obtain ⟨_, _, ⟨T20, Lq20, kq_20, nq_20⟩, -, X20, ⟨Lc20, hQ20, lq20, yq20, zq20⟩, st20⟩ := Jvm.LawKit.callS X18 hx (y := (⟨"com/example/hitung/hitung/NodeTypeTest", "mask", "([S)I"⟩ : MethodName)) hown (mvT hZ (hw _ (List.mem_of_getElem? (i := 1) rfl))) (mvT hZ (hw _ (List.mem_of_getElem? (i := 2) rfl))) (mvT hZ (hw _ (List.mem_of_getElem? (i := 3) rfl))) (mvT hZ (hw _ (List.mem_of_getElem? (i := 4) rfl))) (by decide) (backOf (W := 0) (rmz3 l Z a0 hw [] b13 ki13 (nar .short sa) (nar .short sb) (nar .short sc) h18 n0 ZS18 V_b13_18) hZ (hw _ (List.mem_of_getElem? (i := 4) rfl)) (hw _ (List.mem_of_getElem? (i := 3) rfl)) (by decide) (by decide)) (g := (mkF m 82 #[.val (.int p0), .val (.int p1), .val (.int p2), .val (.int sa), .val (.int sb), .val (.int sc), .val (.int ba), .val (.int bb), .val (.int bc), .val (.int (0 : Int32)), .val (.int ((0 : Int32) ||| ((1 : Int32) <<< ((nar .short sa) &&& 31)))), .val (.int (((0 : Int32) ||| ((1 : Int32) <<< ((nar .short sa) &&& 31))) ||| ((1 : Int32) <<< ((nar .short sb) &&& 31)))), .unset] [(.ref b13)])) rfl (by rw [hml]; rfl) (argsL := [(.ref b13)]) (rest := []) (lenOf pd0_0 rfl) rfl (by show 2 * 0 + _ ≤ _; exact Nat.le_of_eq rfl) (hb hby at_82) (fun _ _ => ⟨rfl, e18, (by decide : 4 + 0 ≤ _), (by decide : 6 + 0 ≤ _)⟩)
  dsimp only [Pt.U, Pt.locs, Pt.cells, Pt.slots] at X20 lq20 yq20 zq20 st20 hQ20
  subst lq20 yq20 zq20
  obtain ⟨rfl, Nq20, e20⟩ := hQ20
  have N20 := Fr.app N18 Nq20
  refine OGo.step (fun uK kK => st20 uK kK) ?_
  show OGo p e below _ (T20.setTop (mkF m 85 #[.val (.int p0), .val (.int p1), .val (.int p2), .val (.int sa), .val (.int sb), .val (.int sc), .val (.int ba), .val (.int bb), .val (.int bc), .val (.int (0 : Int32)), .val (.int ((0 : Int32) ||| ((1 : Int32) <<< ((nar .short sa) &&& 31)))), .val (.int (((0 : Int32) ||| ((1 : Int32) <<< ((nar .short sa) &&& 31))) ||| ((1 : Int32) <<< ((nar .short sb) &&& 31)))), .unset] [(.int ((((0 : Int32) ||| ((1 : Int32) <<< ((nar .short sa) &&& 31))) ||| ((1 : Int32) <<< ((nar .short sb) &&& 31))) ||| ((1 : Int32) <<< ((nar .short sc) &&& 31))))]))
  refine OGo.step (fun uK kK => XS.istore X20.here hx rfl (hb hby at_85) rfl (l' := #[.val (.int p0), .val (.int p1), .val (.int p2), .val (.int sa), .val (.int sb), .val (.int sc), .val (.int ba), .val (.int bb), .val (.int bc), .val (.int (0 : Int32)), .val (.int ((0 : Int32) ||| ((1 : Int32) <<< ((nar .short sa) &&& 31)))), .val (.int (((0 : Int32) ||| ((1 : Int32) <<< ((nar .short sa) &&& 31))) ||| ((1 : Int32) <<< ((nar .short sb) &&& 31)))), .val (.int ((((0 : Int32) ||| ((1 : Int32) <<< ((nar .short sa) &&& 31))) ||| ((1 : Int32) <<< ((nar .short sb) &&& 31))) ||| ((1 : Int32) <<< ((nar .short sc) &&& 31))))]) rfl kK) ?_
  show OGo p e below _ (T20.setTop (mkF m 87 #[.val (.int p0), .val (.int p1), .val (.int p2), .val (.int sa), .val (.int sb), .val (.int sc), .val (.int ba), .val (.int bb), .val (.int bc), .val (.int (0 : Int32)), .val (.int ((0 : Int32) ||| ((1 : Int32) <<< ((nar .short sa) &&& 31)))), .val (.int (((0 : Int32) ||| ((1 : Int32) <<< ((nar .short sa) &&& 31))) ||| ((1 : Int32) <<< ((nar .short sb) &&& 31)))), .val (.int ((((0 : Int32) ||| ((1 : Int32) <<< ((nar .short sa) &&& 31))) ||| ((1 : Int32) <<< ((nar .short sb) &&& 31))) ||| ((1 : Int32) <<< ((nar .short sc) &&& 31))))] []))
  refine OGo.step (fun uK kK => XS.iload X20.here hx rfl (hb hby at_87) rfl kK) ?_
  show OGo p e below _ (T20.setTop (mkF m 89 #[.val (.int p0), .val (.int p1), .val (.int p2), .val (.int sa), .val (.int sb), .val (.int sc), .val (.int ba), .val (.int bb), .val (.int bc), .val (.int (0 : Int32)), .val (.int ((0 : Int32) ||| ((1 : Int32) <<< ((nar .short sa) &&& 31)))), .val (.int (((0 : Int32) ||| ((1 : Int32) <<< ((nar .short sa) &&& 31))) ||| ((1 : Int32) <<< ((nar .short sb) &&& 31)))), .val (.int ((((0 : Int32) ||| ((1 : Int32) <<< ((nar .short sa) &&& 31))) ||| ((1 : Int32) <<< ((nar .short sb) &&& 31))) ||| ((1 : Int32) <<< ((nar .short sc) &&& 31))))] [(.int (0 : Int32))]))
  have hc89 : (0 : Int32) = (0 : Int32) := rfl
  refine OGo.step (fun uK kK => XS.ifNo X20.here hx rfl (hb hby at_89) rfl ((if0 _ _).trans (teq hc89).2) kK) ?_
  show OGo p e below _ (T20.setTop (mkF m 92 #[.val (.int p0), .val (.int p1), .val (.int p2), .val (.int sa), .val (.int sb), .val (.int sc), .val (.int ba), .val (.int bb), .val (.int bc), .val (.int (0 : Int32)), .val (.int ((0 : Int32) ||| ((1 : Int32) <<< ((nar .short sa) &&& 31)))), .val (.int (((0 : Int32) ||| ((1 : Int32) <<< ((nar .short sa) &&& 31))) ||| ((1 : Int32) <<< ((nar .short sb) &&& 31)))), .val (.int ((((0 : Int32) ||| ((1 : Int32) <<< ((nar .short sa) &&& 31))) ||| ((1 : Int32) <<< ((nar .short sb) &&& 31))) ||| ((1 : Int32) <<< ((nar .short sc) &&& 31))))] []))
  refine OGo.step (fun uK kK => XS.iload X20.here hx rfl (hb hby at_92) rfl kK) ?_
  show OGo p e below _ (T20.setTop (mkF m 94 #[.val (.int p0), .val (.int p1), .val (.int p2), .val (.int sa), .val (.int sb), .val (.int sc), .val (.int ba), .val (.int bb), .val (.int bc), .val (.int (0 : Int32)), .val (.int ((0 : Int32) ||| ((1 : Int32) <<< ((nar .short sa) &&& 31)))), .val (.int (((0 : Int32) ||| ((1 : Int32) <<< ((nar .short sa) &&& 31))) ||| ((1 : Int32) <<< ((nar .short sb) &&& 31)))), .val (.int ((((0 : Int32) ||| ((1 : Int32) <<< ((nar .short sa) &&& 31))) ||| ((1 : Int32) <<< ((nar .short sb) &&& 31))) ||| ((1 : Int32) <<< ((nar .short sc) &&& 31))))] [(.int ((0 : Int32) ||| ((1 : Int32) <<< ((nar .short sa) &&& 31))))]))
  refine OGo.step (fun uK kK => XS.iload X20.here hx rfl (hb hby at_94) rfl kK) ?_
  show OGo p e below _ (T20.setTop (mkF m 96 #[.val (.int p0), .val (.int p1), .val (.int p2), .val (.int sa), .val (.int sb), .val (.int sc), .val (.int ba), .val (.int bb), .val (.int bc), .val (.int (0 : Int32)), .val (.int ((0 : Int32) ||| ((1 : Int32) <<< ((nar .short sa) &&& 31)))), .val (.int (((0 : Int32) ||| ((1 : Int32) <<< ((nar .short sa) &&& 31))) ||| ((1 : Int32) <<< ((nar .short sb) &&& 31)))), .val (.int ((((0 : Int32) ||| ((1 : Int32) <<< ((nar .short sa) &&& 31))) ||| ((1 : Int32) <<< ((nar .short sb) &&& 31))) ||| ((1 : Int32) <<< ((nar .short sc) &&& 31))))] [(.int ba), (.int ((0 : Int32) ||| ((1 : Int32) <<< ((nar .short sa) &&& 31))))]))
  have hc96 : ((0 : Int32) ||| ((1 : Int32) <<< ((nar .short sa) &&& 31))) = ba := by rw [hsa, own_or0, ev_ba]
  refine OGo.step (fun uK kK => XS.icmpNo X20.here hx rfl (hb hby at_96) rfl (teq hc96).2 kK) ?_
  show OGo p e below _ (T20.setTop (mkF m 99 #[.val (.int p0), .val (.int p1), .val (.int p2), .val (.int sa), .val (.int sb), .val (.int sc), .val (.int ba), .val (.int bb), .val (.int bc), .val (.int (0 : Int32)), .val (.int ((0 : Int32) ||| ((1 : Int32) <<< ((nar .short sa) &&& 31)))), .val (.int (((0 : Int32) ||| ((1 : Int32) <<< ((nar .short sa) &&& 31))) ||| ((1 : Int32) <<< ((nar .short sb) &&& 31)))), .val (.int ((((0 : Int32) ||| ((1 : Int32) <<< ((nar .short sa) &&& 31))) ||| ((1 : Int32) <<< ((nar .short sb) &&& 31))) ||| ((1 : Int32) <<< ((nar .short sc) &&& 31))))] []))
  refine OGo.step (fun uK kK => XS.iload X20.here hx rfl (hb hby at_99) rfl kK) ?_
  show OGo p e below _ (T20.setTop (mkF m 101 #[.val (.int p0), .val (.int p1), .val (.int p2), .val (.int sa), .val (.int sb), .val (.int sc), .val (.int ba), .val (.int bb), .val (.int bc), .val (.int (0 : Int32)), .val (.int ((0 : Int32) ||| ((1 : Int32) <<< ((nar .short sa) &&& 31)))), .val (.int (((0 : Int32) ||| ((1 : Int32) <<< ((nar .short sa) &&& 31))) ||| ((1 : Int32) <<< ((nar .short sb) &&& 31)))), .val (.int ((((0 : Int32) ||| ((1 : Int32) <<< ((nar .short sa) &&& 31))) ||| ((1 : Int32) <<< ((nar .short sb) &&& 31))) ||| ((1 : Int32) <<< ((nar .short sc) &&& 31))))] [(.int (((0 : Int32) ||| ((1 : Int32) <<< ((nar .short sa) &&& 31))) ||| ((1 : Int32) <<< ((nar .short sb) &&& 31))))]))
  refine OGo.step (fun uK kK => XS.iload X20.here hx rfl (hb hby at_101) rfl kK) ?_
  show OGo p e below _ (T20.setTop (mkF m 103 #[.val (.int p0), .val (.int p1), .val (.int p2), .val (.int sa), .val (.int sb), .val (.int sc), .val (.int ba), .val (.int bb), .val (.int bc), .val (.int (0 : Int32)), .val (.int ((0 : Int32) ||| ((1 : Int32) <<< ((nar .short sa) &&& 31)))), .val (.int (((0 : Int32) ||| ((1 : Int32) <<< ((nar .short sa) &&& 31))) ||| ((1 : Int32) <<< ((nar .short sb) &&& 31)))), .val (.int ((((0 : Int32) ||| ((1 : Int32) <<< ((nar .short sa) &&& 31))) ||| ((1 : Int32) <<< ((nar .short sb) &&& 31))) ||| ((1 : Int32) <<< ((nar .short sc) &&& 31))))] [(.int ba), (.int (((0 : Int32) ||| ((1 : Int32) <<< ((nar .short sa) &&& 31))) ||| ((1 : Int32) <<< ((nar .short sb) &&& 31))))]))
  refine OGo.step (fun uK kK => XS.iload X20.here hx rfl (hb hby at_103) rfl kK) ?_
  show OGo p e below _ (T20.setTop (mkF m 105 #[.val (.int p0), .val (.int p1), .val (.int p2), .val (.int sa), .val (.int sb), .val (.int sc), .val (.int ba), .val (.int bb), .val (.int bc), .val (.int (0 : Int32)), .val (.int ((0 : Int32) ||| ((1 : Int32) <<< ((nar .short sa) &&& 31)))), .val (.int (((0 : Int32) ||| ((1 : Int32) <<< ((nar .short sa) &&& 31))) ||| ((1 : Int32) <<< ((nar .short sb) &&& 31)))), .val (.int ((((0 : Int32) ||| ((1 : Int32) <<< ((nar .short sa) &&& 31))) ||| ((1 : Int32) <<< ((nar .short sb) &&& 31))) ||| ((1 : Int32) <<< ((nar .short sc) &&& 31))))] [(.int bb), (.int ba), (.int (((0 : Int32) ||| ((1 : Int32) <<< ((nar .short sa) &&& 31))) ||| ((1 : Int32) <<< ((nar .short sb) &&& 31))))]))
  refine OGo.step (fun uK kK => XS.ior X20.here hx rfl (hb hby at_105) rfl kK) ?_
  show OGo p e below _ (T20.setTop (mkF m 106 #[.val (.int p0), .val (.int p1), .val (.int p2), .val (.int sa), .val (.int sb), .val (.int sc), .val (.int ba), .val (.int bb), .val (.int bc), .val (.int (0 : Int32)), .val (.int ((0 : Int32) ||| ((1 : Int32) <<< ((nar .short sa) &&& 31)))), .val (.int (((0 : Int32) ||| ((1 : Int32) <<< ((nar .short sa) &&& 31))) ||| ((1 : Int32) <<< ((nar .short sb) &&& 31)))), .val (.int ((((0 : Int32) ||| ((1 : Int32) <<< ((nar .short sa) &&& 31))) ||| ((1 : Int32) <<< ((nar .short sb) &&& 31))) ||| ((1 : Int32) <<< ((nar .short sc) &&& 31))))] [(.int (ba ||| bb)), (.int (((0 : Int32) ||| ((1 : Int32) <<< ((nar .short sa) &&& 31))) ||| ((1 : Int32) <<< ((nar .short sb) &&& 31))))]))
  have hc106 : (((0 : Int32) ||| ((1 : Int32) <<< ((nar .short sa) &&& 31))) ||| ((1 : Int32) <<< ((nar .short sb) &&& 31))) = (ba ||| bb) := by rw [hsa, hsb, own_or0, ev_ba, ev_bb]
  refine OGo.step (fun uK kK => XS.icmpNo X20.here hx rfl (hb hby at_106) rfl (teq hc106).2 kK) ?_
  show OGo p e below _ (T20.setTop (mkF m 109 #[.val (.int p0), .val (.int p1), .val (.int p2), .val (.int sa), .val (.int sb), .val (.int sc), .val (.int ba), .val (.int bb), .val (.int bc), .val (.int (0 : Int32)), .val (.int ((0 : Int32) ||| ((1 : Int32) <<< ((nar .short sa) &&& 31)))), .val (.int (((0 : Int32) ||| ((1 : Int32) <<< ((nar .short sa) &&& 31))) ||| ((1 : Int32) <<< ((nar .short sb) &&& 31)))), .val (.int ((((0 : Int32) ||| ((1 : Int32) <<< ((nar .short sa) &&& 31))) ||| ((1 : Int32) <<< ((nar .short sb) &&& 31))) ||| ((1 : Int32) <<< ((nar .short sc) &&& 31))))] []))
  refine OGo.step (fun uK kK => XS.iload X20.here hx rfl (hb hby at_109) rfl kK) ?_
  show OGo p e below _ (T20.setTop (mkF m 111 #[.val (.int p0), .val (.int p1), .val (.int p2), .val (.int sa), .val (.int sb), .val (.int sc), .val (.int ba), .val (.int bb), .val (.int bc), .val (.int (0 : Int32)), .val (.int ((0 : Int32) ||| ((1 : Int32) <<< ((nar .short sa) &&& 31)))), .val (.int (((0 : Int32) ||| ((1 : Int32) <<< ((nar .short sa) &&& 31))) ||| ((1 : Int32) <<< ((nar .short sb) &&& 31)))), .val (.int ((((0 : Int32) ||| ((1 : Int32) <<< ((nar .short sa) &&& 31))) ||| ((1 : Int32) <<< ((nar .short sb) &&& 31))) ||| ((1 : Int32) <<< ((nar .short sc) &&& 31))))] [(.int ((((0 : Int32) ||| ((1 : Int32) <<< ((nar .short sa) &&& 31))) ||| ((1 : Int32) <<< ((nar .short sb) &&& 31))) ||| ((1 : Int32) <<< ((nar .short sc) &&& 31))))]))
  refine OGo.step (fun uK kK => XS.iload X20.here hx rfl (hb hby at_111) rfl kK) ?_
  show OGo p e below _ (T20.setTop (mkF m 113 #[.val (.int p0), .val (.int p1), .val (.int p2), .val (.int sa), .val (.int sb), .val (.int sc), .val (.int ba), .val (.int bb), .val (.int bc), .val (.int (0 : Int32)), .val (.int ((0 : Int32) ||| ((1 : Int32) <<< ((nar .short sa) &&& 31)))), .val (.int (((0 : Int32) ||| ((1 : Int32) <<< ((nar .short sa) &&& 31))) ||| ((1 : Int32) <<< ((nar .short sb) &&& 31)))), .val (.int ((((0 : Int32) ||| ((1 : Int32) <<< ((nar .short sa) &&& 31))) ||| ((1 : Int32) <<< ((nar .short sb) &&& 31))) ||| ((1 : Int32) <<< ((nar .short sc) &&& 31))))] [(.int ba), (.int ((((0 : Int32) ||| ((1 : Int32) <<< ((nar .short sa) &&& 31))) ||| ((1 : Int32) <<< ((nar .short sb) &&& 31))) ||| ((1 : Int32) <<< ((nar .short sc) &&& 31))))]))
  refine OGo.step (fun uK kK => XS.iload X20.here hx rfl (hb hby at_113) rfl kK) ?_
  show OGo p e below _ (T20.setTop (mkF m 115 #[.val (.int p0), .val (.int p1), .val (.int p2), .val (.int sa), .val (.int sb), .val (.int sc), .val (.int ba), .val (.int bb), .val (.int bc), .val (.int (0 : Int32)), .val (.int ((0 : Int32) ||| ((1 : Int32) <<< ((nar .short sa) &&& 31)))), .val (.int (((0 : Int32) ||| ((1 : Int32) <<< ((nar .short sa) &&& 31))) ||| ((1 : Int32) <<< ((nar .short sb) &&& 31)))), .val (.int ((((0 : Int32) ||| ((1 : Int32) <<< ((nar .short sa) &&& 31))) ||| ((1 : Int32) <<< ((nar .short sb) &&& 31))) ||| ((1 : Int32) <<< ((nar .short sc) &&& 31))))] [(.int bb), (.int ba), (.int ((((0 : Int32) ||| ((1 : Int32) <<< ((nar .short sa) &&& 31))) ||| ((1 : Int32) <<< ((nar .short sb) &&& 31))) ||| ((1 : Int32) <<< ((nar .short sc) &&& 31))))]))
  refine OGo.step (fun uK kK => XS.ior X20.here hx rfl (hb hby at_115) rfl kK) ?_
  show OGo p e below _ (T20.setTop (mkF m 116 #[.val (.int p0), .val (.int p1), .val (.int p2), .val (.int sa), .val (.int sb), .val (.int sc), .val (.int ba), .val (.int bb), .val (.int bc), .val (.int (0 : Int32)), .val (.int ((0 : Int32) ||| ((1 : Int32) <<< ((nar .short sa) &&& 31)))), .val (.int (((0 : Int32) ||| ((1 : Int32) <<< ((nar .short sa) &&& 31))) ||| ((1 : Int32) <<< ((nar .short sb) &&& 31)))), .val (.int ((((0 : Int32) ||| ((1 : Int32) <<< ((nar .short sa) &&& 31))) ||| ((1 : Int32) <<< ((nar .short sb) &&& 31))) ||| ((1 : Int32) <<< ((nar .short sc) &&& 31))))] [(.int (ba ||| bb)), (.int ((((0 : Int32) ||| ((1 : Int32) <<< ((nar .short sa) &&& 31))) ||| ((1 : Int32) <<< ((nar .short sb) &&& 31))) ||| ((1 : Int32) <<< ((nar .short sc) &&& 31))))]))
  refine OGo.step (fun uK kK => XS.iload X20.here hx rfl (hb hby at_116) rfl kK) ?_
  show OGo p e below _ (T20.setTop (mkF m 118 #[.val (.int p0), .val (.int p1), .val (.int p2), .val (.int sa), .val (.int sb), .val (.int sc), .val (.int ba), .val (.int bb), .val (.int bc), .val (.int (0 : Int32)), .val (.int ((0 : Int32) ||| ((1 : Int32) <<< ((nar .short sa) &&& 31)))), .val (.int (((0 : Int32) ||| ((1 : Int32) <<< ((nar .short sa) &&& 31))) ||| ((1 : Int32) <<< ((nar .short sb) &&& 31)))), .val (.int ((((0 : Int32) ||| ((1 : Int32) <<< ((nar .short sa) &&& 31))) ||| ((1 : Int32) <<< ((nar .short sb) &&& 31))) ||| ((1 : Int32) <<< ((nar .short sc) &&& 31))))] [(.int bc), (.int (ba ||| bb)), (.int ((((0 : Int32) ||| ((1 : Int32) <<< ((nar .short sa) &&& 31))) ||| ((1 : Int32) <<< ((nar .short sb) &&& 31))) ||| ((1 : Int32) <<< ((nar .short sc) &&& 31))))]))
  refine OGo.step (fun uK kK => XS.ior X20.here hx rfl (hb hby at_118) rfl kK) ?_
  show OGo p e below _ (T20.setTop (mkF m 119 #[.val (.int p0), .val (.int p1), .val (.int p2), .val (.int sa), .val (.int sb), .val (.int sc), .val (.int ba), .val (.int bb), .val (.int bc), .val (.int (0 : Int32)), .val (.int ((0 : Int32) ||| ((1 : Int32) <<< ((nar .short sa) &&& 31)))), .val (.int (((0 : Int32) ||| ((1 : Int32) <<< ((nar .short sa) &&& 31))) ||| ((1 : Int32) <<< ((nar .short sb) &&& 31)))), .val (.int ((((0 : Int32) ||| ((1 : Int32) <<< ((nar .short sa) &&& 31))) ||| ((1 : Int32) <<< ((nar .short sb) &&& 31))) ||| ((1 : Int32) <<< ((nar .short sc) &&& 31))))] [(.int ((ba ||| bb) ||| bc)), (.int ((((0 : Int32) ||| ((1 : Int32) <<< ((nar .short sa) &&& 31))) ||| ((1 : Int32) <<< ((nar .short sb) &&& 31))) ||| ((1 : Int32) <<< ((nar .short sc) &&& 31))))]))
  have hc119 : ((((0 : Int32) ||| ((1 : Int32) <<< ((nar .short sa) &&& 31))) ||| ((1 : Int32) <<< ((nar .short sb) &&& 31))) ||| ((1 : Int32) <<< ((nar .short sc) &&& 31))) = ((ba ||| bb) ||| bc) := by rw [hsa, hsb, hsc, own_or0, ev_ba, ev_bb, ev_bc]
  refine OGo.step (fun uK kK => XS.icmpNo X20.here hx rfl (hb hby at_119) rfl (teq hc119).2 kK) ?_
  show OGo p e below _ (T20.setTop (mkF m 122 #[.val (.int p0), .val (.int p1), .val (.int p2), .val (.int sa), .val (.int sb), .val (.int sc), .val (.int ba), .val (.int bb), .val (.int bc), .val (.int (0 : Int32)), .val (.int ((0 : Int32) ||| ((1 : Int32) <<< ((nar .short sa) &&& 31)))), .val (.int (((0 : Int32) ||| ((1 : Int32) <<< ((nar .short sa) &&& 31))) ||| ((1 : Int32) <<< ((nar .short sb) &&& 31)))), .val (.int ((((0 : Int32) ||| ((1 : Int32) <<< ((nar .short sa) &&& 31))) ||| ((1 : Int32) <<< ((nar .short sb) &&& 31))) ||| ((1 : Int32) <<< ((nar .short sc) &&& 31))))] []))
  refine OGo.step (fun uK kK => XS.iconst X20.here hx rfl (hb hby at_122) kK) ?_
  show OGo p e below _ (T20.setTop (mkF m 123 #[.val (.int p0), .val (.int p1), .val (.int p2), .val (.int sa), .val (.int sb), .val (.int sc), .val (.int ba), .val (.int bb), .val (.int bc), .val (.int (0 : Int32)), .val (.int ((0 : Int32) ||| ((1 : Int32) <<< ((nar .short sa) &&& 31)))), .val (.int (((0 : Int32) ||| ((1 : Int32) <<< ((nar .short sa) &&& 31))) ||| ((1 : Int32) <<< ((nar .short sb) &&& 31)))), .val (.int ((((0 : Int32) ||| ((1 : Int32) <<< ((nar .short sa) &&& 31))) ||| ((1 : Int32) <<< ((nar .short sb) &&& 31))) ||| ((1 : Int32) <<< ((nar .short sc) &&& 31))))] [(.int (1 : Int32))]))
  refine OGo.step (fun uK kK => XS.goto X20.here hx rfl (pc0 := 123) (pc' := 127) rfl (hb hby at_123) (by decide) (by decide) kK) ?_
  show OGo p e below _ (T20.setTop (mkF m 127 #[.val (.int p0), .val (.int p1), .val (.int p2), .val (.int sa), .val (.int sb), .val (.int sc), .val (.int ba), .val (.int bb), .val (.int bc), .val (.int (0 : Int32)), .val (.int ((0 : Int32) ||| ((1 : Int32) <<< ((nar .short sa) &&& 31)))), .val (.int (((0 : Int32) ||| ((1 : Int32) <<< ((nar .short sa) &&& 31))) ||| ((1 : Int32) <<< ((nar .short sb) &&& 31)))), .val (.int ((((0 : Int32) ||| ((1 : Int32) <<< ((nar .short sa) &&& 31))) ||| ((1 : Int32) <<< ((nar .short sb) &&& 31))) ||| ((1 : Int32) <<< ((nar .short sc) &&& 31))))] [(.int (1 : Int32))]))
  exact OGo.retN X20 hx Bd.notSynchronized (t := .boolean) Bd.returns (by simp) (hb hby at_127) (by decide) (by decide) (by show Q0 Z p0 p1 p2 h0 n0 _ T20.heap _; rw [e20]; exact ⟨rfl, N20⟩)
set_option maxRecDepth 65536 in
set_option maxHeartbeats 40000000 in
theorem comes_1 {Post : Tables → Env → Array Value → State → Outcome → State → Prop} (hpost : ∀ tb e args s v u, (limb_1_1.after args s (.returned v) u = true ∧ limb_1_2.after args s (.returned v) u = true ∧ True) → FrameEnd s (.returned v) u (Jvm.fieldLocs frame_1_writes args s ++ Jvm.arrayLocs frame_1_arrays args s ++ Jvm.staticLocs frame_1_statics s) 16 128 → Post tb e args s (.returned v) u) :
    ArmFor flags0 classFile x code maxLocals ret World_1 tables_1 room_1 Calls_1 rest_1 Pre_1 Post := by
  intro l hfl _ _ p e ha hc hk s m args below hf hA hF happ hP
  obtain ⟨hcalls, hrest, hpre⟩ := hP
  obtain ⟨-, -, -, hnamed, -, -, -, hat⟩ := (Spec.applies_iff hf).mp happ
  obtain ⟨hg, hn⟩ := and_e (Cond.before_iff.mp (show (Jvm.Cond.and given_1 narrow_1).before args s = true from hpre))
  obtain ⟨hcount, hg0⟩ := and_e hg
  obtain ⟨ga0, hg1⟩ := and_e hg0
  obtain ⟨ga1, hg2⟩ := and_e hg1
  have ga2 := hg2
  obtain ⟨w0, w1, w2, rfl⟩ : ∃ w0 w1 w2 : Value, args = #[w0, w1, w2] := by
    have hs : args.size = 3 := by simpa [Cond.value, given_1] using hcount
    obtain ⟨L⟩ := args
    match L, hs with
    | [w0, w1, w2], _ => exact ⟨w0, w1, w2, rfl⟩
  have hw := fun d (hd : d ∈ tables_1) => atoms_spec (ws := Jvm.Cond.code x code maxLocals ret :: tables_1) hat d (List.mem_cons_of_mem _ hd)
  have hfit : Fit s := fun {y c} hc i hi => by
    obtain ⟨ha, rfl⟩ := Array.getElem?_eq_some_iff.mp hc
    have q := List.all_eq_true.mp ((Array.all_eq_true_iff_forall_mem.mp hF) _ (Array.getElem_mem ha)) i (List.mem_range.mpr hi)
    simpa [Array.getElem?_eq_getElem hi] using q
  obtain ⟨i0, ei0⟩ := is_v ga0
  obtain rfl : w0 = (.int i0) := Option.some.inj ei0
  obtain ⟨i1, ei1⟩ := is_v ga1
  obtain rfl : w1 = (.int i1) := Option.some.inj ei1
  obtain ⟨i2, ei2⟩ := is_v ga2
  obtain rfl : w2 = (.int i2) := Option.some.inj ei2
  obtain ⟨n, o, h1, h2, h3, _, L, rfl, ⟨rfl, N⟩, hq⟩ := rm0 l s _ hw tables_1 i0 i1 i2  s.heap s.heap.size (Nat.le_refl _)  p e ha hc hk s m _ below hf ((Spec.applies_iff_loose hf).mp happ).1 ⟨rfl, State.Warmed39.refl s, rfl⟩ trivial
  refine ⟨n, _, h1, h2, h3, hpost _ _ _ _ _ _ ⟨Cond.after_iff.mpr rfl, Cond.after_iff.mpr (eq_i res_at (Term.int_eval (1)) rfl), trivial⟩ ⟨hq.1, hq.2.1, (hq.2.2.sift fun y hy => Or.inr (N y hy)).mono (by decide) (by decide)⟩⟩
theorem main_1_1 : Claimed_1_1 := comes_1 fun _ _ _ _ _ _ h hF => ⟨h.1, hF⟩
theorem main_1_2 : Claimed_1_2 := comes_1 fun _ _ _ _ _ _ h hF => ⟨h.2.1, hF⟩
end Jvm.Pilot.@@N@@
namespace Jvm.Pilot.@@N@@
open Jvm Jvm.ClassFile Sem Op Lib Jvm.Free Jvm.Stand Jvm.Pilot.@@N@@.Jvm.D
/-! MADE BY PROGRAM (witnessworld.py) out of the Statement's table words and the real class files: 13 classes; the members and pool entries that the words name. The judged class is class 1, her method 1. -/
namespace start1
open Jvm.ClassFile
def u (s : String) : CpInfo := .utf8 (stringToUtf16 s)
/-- a pool by its gaps: so many unusable entries, then the entry; so many at the end -/
def gap : Nat → List CpInfo → List CpInfo
  | 0, r => r
  | n + 1, r => .unusable :: gap n r
def poolList (es : List (Nat × CpInfo)) (last : Nat) : List CpInfo := es.foldr (fun e r => gap e.1 (e.2 :: r)) (gap last [])
def pool (es : List (Nat × CpInfo)) (last : Nat) : Array CpInfo := ⟨poolList es last⟩
def fileOf (pool : Array CpInfo) (this : Nat) (attrs : Array Attribute := #[]) (ms : Array MethodInfo := #[]) (fl : Nat := 33) (sup : Nat := 0) (ifs : Array Nat := #[]) (fds : Array FieldInfo := #[]) : ClassFile where
  minorVersion := 0
  majorVersion := 65
  constantPool := pool
  accessFlags := fl
  thisClass := this
  superClass := sup
  interfaces := ifs
  fields := fds
  methods := ms
  attributes := attrs
def plain (name : String) (sup : Option ClassId) : Class where
  name := name
  kind := .ordinary
  loader := none
  accessFlags := 33
  super := sup
  interfaces := #[]
  cf := none
  fields := #[]
  methods := #[]
  instanceTypes := #[]
  staticTypes := #[]
  resolved := #[]
  callSites := []
  init := .initialized
  statics := none
  mirror := none

def pool0 : Array CpInfo := pool [(5, u "<init>"), (0, u "()V"), (1, .class_ 10), (1, u "java/lang/Object")] 113

def k0m0 : Method := { name := "<init>", desc := "()V", sig := { parameters := [], returnType := none }, accessFlags := 1, code := none }
/-- java/lang/Object -/
def k0 : Class := { plain "java/lang/Object" none with
  accessFlags := 33
  interfaces := #[]
  cf := some (fileOf pool0 8 #[] #[{ accessFlags := 1, nameIndex := 5, descriptorIndex := 6, attributes := #[] }] 33 0 #[] #[])
  fields := #[]
  methods := #[k0m0]
  instanceTypes := #[]
  staticTypes := #[]
  resolved := Array.replicate 124 none
  statics := none }

def pool1 : Array CpInfo := pool [(2, .class_ 4), (1, u "java/lang/Object"), (0, u "<init>"), (0, u "()V"), (0, .methodref 8 9), (0, .class_ 10), (0, .nameAndType 11 12), (0, u "com/example/hitung/hitung/NodeTypeTest"), (0, u "mask"), (0, u "([S)I"), (0, .class_ 14), (0, u "com/example/hitung/hitung/NodeTypeTestMaskPinLaw"), (2, u "law"), (0, u "(III)Z")] 3

def k1m0 : Method := { name := "<init>", desc := "()V", sig := { parameters := [], returnType := none }, accessFlags := 1, code := none }
def k1c1 : Code := { maxStack := 4, maxLocals := 13, code := code, exceptionTable := #[], attributes := #[] }
def k1m1 : Method := { name := "law", desc := "(III)Z", sig := { parameters := [.int, .int, .int], returnType := some .boolean }, accessFlags := 9, code := some k1c1 }
/-- com/example/hitung/hitung/NodeTypeTestMaskPinLaw -/
def k1 : Class := { plain "com/example/hitung/hitung/NodeTypeTestMaskPinLaw" (some 0) with
  accessFlags := 49
  interfaces := #[]
  cf := some (fileOf pool1 13 #[] #[{ accessFlags := 1, nameIndex := 5, descriptorIndex := 6, attributes := #[] }, { accessFlags := 9, nameIndex := 17, descriptorIndex := 18, attributes := #[] }] 49 2 #[] #[])
  fields := #[]
  methods := #[k1m0, k1m1]
  instanceTypes := #[]
  staticTypes := #[]
  resolved := Array.replicate 22 none
  statics := none }

def pool2 : Array CpInfo := pool [(2, .class_ 4), (1, u "java/lang/Object"), (0, u "<init>"), (0, u "()V"), (0, .class_ 8), (0, u "java/lang/Record")] 13

def k2m0 : Method := { name := "<init>", desc := "()V", sig := { parameters := [], returnType := none }, accessFlags := 4, code := none }
/-- java/lang/Record -/
def k2 : Class := { plain "java/lang/Record" (some 0) with
  accessFlags := 1057
  interfaces := #[]
  cf := some (fileOf pool2 7 #[] #[{ accessFlags := 4, nameIndex := 5, descriptorIndex := 6, attributes := #[] }] 1057 2 #[] #[])
  fields := #[]
  methods := #[k2m0]
  instanceTypes := #[]
  staticTypes := #[]
  resolved := Array.replicate 22 none
  statics := none }

def pool3 : Array CpInfo := pool [(1, .class_ 2), (0, u "com/example/hitung/hitung/NodeTest"), (0, .class_ 4), (0, u "java/lang/Object")] 9

/-- com/example/hitung/hitung/NodeTest -/
def k3 : Class := { plain "com/example/hitung/hitung/NodeTest" (some 0) with
  accessFlags := 1536
  interfaces := #[]
  cf := some (fileOf pool3 1 #[] #[] 1536 3 #[] #[])
  fields := #[]
  methods := #[]
  instanceTypes := #[]
  staticTypes := #[]
  resolved := Array.replicate 14 none
  statics := none }

def pool4 : Array CpInfo := pool [(2, .class_ 4), (1, u "java/lang/Record"), (3, .class_ 10), (1, u "com/example/hitung/hitung/NodeTypeTest"), (0, u "types"), (0, u "I"), (2, u "further"), (0, u "Lcom/example/hitung/hitung/NodeTest;"), (5, .class_ 24), (1, u "com/example/hitung/hitung/NodeTest"), (24, u "ANY"), (0, u "Lcom/example/hitung/hitung/NodeTypeTest;"), (0, u "ALL"), (5, u "mask"), (0, u "([S)I")] 34

def k4c0 : Code := { maxStack := 3, maxLocals := 6, code := prog_64_method_2_code, exceptionTable := #[], attributes := #[] }
def k4m0 : Method := { name := "mask", desc := "([S)I", sig := { parameters := [(.array .short)], returnType := some .int }, accessFlags := 136, code := some k4c0 }
/-- com/example/hitung/hitung/NodeTypeTest -/
def k4 : Class := { plain "com/example/hitung/hitung/NodeTypeTest" (some 2) with
  accessFlags := 48
  interfaces := #[3]
  cf := some (fileOf pool4 8 #[] #[{ accessFlags := 136, nameIndex := 57, descriptorIndex := 58, attributes := #[] }] 48 2 #[22] #[{ accessFlags := 18, nameIndex := 11, descriptorIndex := 12, attributes := #[] }, { accessFlags := 18, nameIndex := 15, descriptorIndex := 16, attributes := #[] }, { accessFlags := 26, nameIndex := 51, descriptorIndex := 12, attributes := #[] }, { accessFlags := 24, nameIndex := 49, descriptorIndex := 50, attributes := #[] }])
  fields := #[{ name := "types", type := .int, accessFlags := 18, slot := 0, constantValue := 0 }, { name := "further", type := (.object "com/example/hitung/hitung/NodeTest"), accessFlags := 18, slot := 1, constantValue := 0 }, { name := "ALL", type := .int, accessFlags := 26, slot := 0, constantValue := 0 }, { name := "ANY", type := (.object "com/example/hitung/hitung/NodeTypeTest"), accessFlags := 24, slot := 1, constantValue := 0 }]
  methods := #[k4m0]
  instanceTypes := #[.int, (.object "com/example/hitung/hitung/NodeTest")]
  staticTypes := #[.int, (.object "com/example/hitung/hitung/NodeTypeTest")]
  resolved := Array.replicate 93 none
  statics := none }

def pool5 : Array CpInfo := pool [(1, u "java/lang/Cloneable"), (0, .class_ 1), (0, u "java/lang/Object"), (0, .class_ 3)] 3

/-- java/lang/Cloneable -/
def k5 : Class := { plain "java/lang/Cloneable" (some 0) with
  accessFlags := 1537
  interfaces := #[]
  cf := some (fileOf pool5 2 #[] #[] 1537 4 #[] #[])
  fields := #[]
  methods := #[]
  instanceTypes := #[]
  staticTypes := #[]
  resolved := Array.replicate 8 none
  statics := none }

def pool6 : Array CpInfo := pool [(1, u "java/io/Serializable"), (0, .class_ 1), (0, u "java/lang/Object"), (0, .class_ 3)] 3

/-- java/io/Serializable -/
def k6 : Class := { plain "java/io/Serializable" (some 0) with
  accessFlags := 1537
  interfaces := #[]
  cf := some (fileOf pool6 2 #[] #[] 1537 4 #[] #[])
  fields := #[]
  methods := #[]
  instanceTypes := #[]
  staticTypes := #[]
  resolved := Array.replicate 8 none
  statics := none }

/-- the primitive byte -/
def k7 : Class := { plain "byte" none with kind := .primitive 'B', accessFlags := 0x411 }
/-- [B -/
def k8 : Class := { plain "[B" (some 0) with kind := .array 7 .byte, interfaces := #[5, 6], accessFlags := 1041 }

/-- the primitive int -/
def k9 : Class := { plain "int" none with kind := .primitive 'I', accessFlags := 0x411 }
/-- [I -/
def k10 : Class := { plain "[I" (some 0) with kind := .array 9 .int, interfaces := #[5, 6], accessFlags := 1041 }

/-- the primitive short -/
def k11 : Class := { plain "short" none with kind := .primitive 'S', accessFlags := 0x411 }
/-- [S -/
def k12 : Class := { plain "[S" (some 0) with kind := .array 11 .short, interfaces := #[5, 6], accessFlags := 1041 }

def heap : Heap := #[]
def classes : Array Class := #[k0, k1, k2, k3, k4, k5, k6, k7, k8, k9, k10, k11, k12]
def interned : List (Array UInt16 × Addr) := []
def slotsUsed : Nat := 0
def theMethod : MethodId := ⟨1, 1⟩
def args0 : Array Value := #[.int 5, .int 6, .int 7]
def aboutOver (below : List Frame) : State where
  vm := { classes := classes, interned := interned.toArray }
  heap := heap
  slotsUsed := slotsUsed
  threads := #[{ frames := .invoking theMethod args0 :: below }]
def below0 : List Frame := [.native { method := ⟨0, 0⟩, args := #[] }]
def about1 : State := aboutOver below0
def p0 : Program := .bare "" "" ""
def e0 : Env := launch0.env 0 0 0
theorem w_frames : about1.frames = Frame.invoking theMethod args0 :: below0 := rfl
set_option maxRecDepth 65536 in
theorem w_args : argsFit about1.vm theMethod args0 = true := by decide +kernel
set_option maxRecDepth 65536 in
theorem w_heap : heapFits about1 = true := by decide +kernel
set_option maxRecDepth 65536 in
theorem w_runnable : about1.curStatus? = some .runnable := by decide +kernel
set_option maxRecDepth 65536 in
theorem w_alone : about1.alone = true := by decide +kernel
set_option maxRecDepth 65536 in
theorem w_named : about1.methodNamed? x = some theMethod := by decide +kernel
set_option maxRecDepth 65536 in
theorem w_hears : about1.hears theMethod below0 = true := by decide +kernel
set_option maxRecDepth 65536 in
theorem w_ripe : about1.ripe theMethod args0 below0 = true := by decide +kernel
theorem w_running : about1.status = .running := rfl
set_option maxRecDepth 65536 in
theorem w_room : about1.hasRoom e0.platform room_1 = true :=
  launch0.hasRoom_least _ room_1 (by decide +kernel) (by decide +kernel) (by decide +kernel) (by decide +kernel) (by decide +kernel) (by decide +kernel)
theorem allAtoms_all (ts : List Jvm.Cond) (a : Array Jvm.Value) (st : Jvm.State) : (allAtoms ts).before a st = ts.all (fun c => c.before a st) := by
  induction ts with
  | nil => rfl
  | cons c t ih =>
    show (Jvm.Cond.and c (allAtoms t)).before a st = _
    rw [Jvm.Cond.before_and, ih, List.all_cons]
def words1 : List Jvm.Cond := Jvm.Cond.code x code maxLocals ret :: tables_1
/-- a 'code' word, met by the world's own term for the bytes: nothing is compared byte by byte -/
theorem code_word {y : MethodName} {bytes : ByteArray} {mx : Nat} {rt : Option FieldType} {a : Array Value} {s : State} {m : MethodId} {meth : Method} {c : Code} (h1 : s.methodNamed? y = some m) (h2 : s.vm.method? m = some meth) (h3 : meth.code = some c) (h4 : c.code = bytes)
    (h5 : (c.maxLocals == mx && c.exceptionTable.isEmpty && decide (c.maxStack ≤ mostOperands) && decide (meth.sig.returnType = rt) && !meth.locks && decide (parseMethodDescriptor y.desc = some meth.sig)) = true) : (Jvm.Cond.code y bytes mx rt).before a s = true := by
  simp only [Bool.and_eq_true, beq_iff_eq, Bool.not_eq_true', decide_eq_true_eq] at h5
  obtain ⟨⟨⟨⟨⟨g1, g2⟩, g3⟩, g4⟩, g5⟩, g6⟩ := h5
  simp [Cond.before, Cond.holds, Cond.value, h1, h2, h3, h4, g1, g2, g3, g4, g5, g6]
def isCode : Jvm.Cond → Bool
  | .code _ _ _ _ => true
  | _ => false
theorem all_split {L : List Jvm.Cond} {P : Jvm.Cond → Bool} (h1 : L.all (fun c => isCode c || P c) = true) (h2 : ∀ c ∈ L.filter isCode, P c = true) : L.all P = true := by
  refine List.all_eq_true.mpr fun c hc => ?_
  have h := List.all_eq_true.mp h1 c hc
  rcases Bool.eq_false_or_eq_true (isCode c) with hi | hi
  · exact h2 c (List.mem_filter.mpr ⟨hc, hi⟩)
  · simpa [hi] using h
set_option maxRecDepth 65536 in
theorem w_c0 : (Jvm.Cond.code x code maxLocals ret).before args0 about1 = true := code_word (m := ⟨1, 1⟩) (meth := k1m1) (c := k1c1) (by decide +kernel) rfl rfl rfl (by decide +kernel)
set_option maxRecDepth 65536 in
theorem w_c1 : (Jvm.Cond.code ({ cls := "com/example/hitung/hitung/NodeTypeTest", name := "mask", desc := "([S)I" } : Jvm.MethodName) prog_64_method_2_code (6 : Nat) (Option.some Jvm.ClassFile.FieldType.int)).before args0 about1 = true := code_word (m := ⟨4, 0⟩) (meth := k4m0) (c := k4c0) (by decide +kernel) rfl rfl rfl (by decide +kernel)
def codes1 : List Jvm.Cond := [Jvm.Cond.code x code maxLocals ret, Jvm.Cond.code ({ cls := "com/example/hitung/hitung/NodeTypeTest", name := "mask", desc := "([S)I" } : Jvm.MethodName) prog_64_method_2_code (6 : Nat) (Option.some Jvm.ClassFile.FieldType.int)]
set_option maxRecDepth 65536 in
theorem codes_eq : words1.filter isCode = codes1 := rfl
theorem w_codes : ∀ c ∈ words1.filter isCode, c.before args0 about1 = true := by
  rw [codes_eq]
  intro c hc
  simp only [codes1, List.mem_cons, List.not_mem_nil, or_false] at hc
  rcases hc with rfl | rfl
  · exact w_c0
  · exact w_c1
set_option maxRecDepth 65536 in
theorem w_t1 : words1.all (fun c => isCode c || c.before args0 about1) = true := by decide +kernel
theorem w_tables : (allAtoms (Jvm.Cond.code x code maxLocals ret :: tables_1)).before args0 about1 = true := by
  rw [allAtoms_all]
  show words1.all (fun c => c.before args0 about1) = true
  refine all_split ?_ w_codes
  rw [w_t1]
set_option maxRecDepth 65536 in
theorem w_case : (Jvm.Cond.and given_1 narrow_1).before args0 about1 = true := by decide +kernel
theorem w_applies : (headSpec (Jvm.Cond.code x code maxLocals ret :: tables_1) room_1).applies x e0.platform about1 = true :=
  (Spec.applies_iff w_frames).mpr ⟨w_running, w_runnable, w_alone, w_named, w_hears, w_ripe, w_room, w_tables⟩
theorem atStart : AtStart classFile x code maxLocals ret World_1 tables_1 room_1 Calls_1 rest_1 Pre_1 launch0 p0 e0 about1 theMethod args0 below0 :=
  ⟨lists_1, trivial, launch0.admits_env _ _ _, launch0.least_env, fairChoices_fair.cas, fairChoices_fair.clock, w_frames, w_args, w_heap, w_applies, trivial, trivial, w_case⟩
end start1
theorem witness_1 : WitnessClaimed_1 := ⟨start1.p0, start1.e0, start1.about1, start1.theMethod, start1.args0, start1.below0, start1.atStart⟩
end Jvm.Pilot.@@N@@
