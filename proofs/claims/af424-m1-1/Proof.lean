import JvmDerived
import JvmDerived.Pilot.@@N@@Statement
import JvmDerived.Pilot.@@N@@Code
set_option linter.unusedVariables false
set_option linter.unusedSimpArgs false
namespace Jvm.RoadKit
open Sem ClassFile Op Lib Jvm.Stand Jvm.Free Jvm.LawKit
section OwnFlow
variable {p : Program} {l : Launch} {e : Env} {R : Room} {s : State} {m : MethodId} {args : Array Value} {below : List Frame} {meth : Method} {c : Code} {T : State} {locs : List Loc} {cells slots : Nat} {P : State → Outcome → Prop} {Q : Option Value → Heap → List Loc → Prop} {C S : Nat}
/-- from t the run comes to an end at which P holds -/
def OGo (p : Program) (e : Env) (below : List Frame) (P : State → Outcome → Prop) (t : State) : Prop := ∃ s₂ o, Steps p.tables e below t s₂ ∧ s₂.status = .running ∧ Ended s₂ below o ∧ P s₂ o
/-- it returned; Q of the value, the heap and the places written; the frame -/
def OPost (s : State) (Q : Option Value → Heap → List Loc → Prop) (C S : Nat) (s₂ : State) (o : Outcome) : Prop := ∃ v L, o = .returned v ∧ Q v s₂.heap L ∧ FrameEnd s o s₂ L C S
theorem OGo.step {t t' : State} (h : ∀ u, Steps p.tables e below t' u → Steps p.tables e below t u) (g : OGo p e below P t') : OGo p e below P t := by
  obtain ⟨s2, o, h1, h2⟩ := g
  exact ⟨s2, o, h _ h1, h2⟩
theorem OGo.steps {t t' : State} (h : Steps p.tables e below t t') (g : OGo p e below P t') : OGo p e below P t := OGo.step (fun _ k => h.trans k) g
theorem OGo.retI (X : Stand p l e R s m args below meth c T locs cells slots) (hx : p.tables.exec = Jvm.exec) (hk : meth.locks = false) {pc : Nat} {Ls : Array Slot} {z : Int32} {rest : List Value} (hret : meth.sig.returnType = some .int) (hd : decode c.code pc = .ok (.ireturn, 1))
    (hc : cells ≤ C) (hs : slots ≤ S) (q : Q (some (.int z)) T.heap locs) : OGo p e below (OPost s Q C S) (T.setTop (mkF m pc Ls (.int z :: rest))) := by
  obtain ⟨fs, hr, hrun, hended, hW, hsame⟩ := X.leave (v := some (.int z)) (fun h => by rw [hret] at h; cases h) hk
  exact ⟨_, _, retOut X hx hret rfl (Or.inl ⟨rfl, Or.inl rfl, _, rfl⟩) hd hr, hrun, hended, _, _, rfl, q, ⟨_, rfl⟩, hW, hsame.mono hc hs⟩
theorem OGo.retN (X : Stand p l e R s m args below meth c T locs cells slots) (hx : p.tables.exec = Jvm.exec) (hk : meth.locks = false) {pc : Nat} {Ls : Array Slot} {z : Int32} {t : FieldType} {rest : List Value} (hret : meth.sig.returnType = some t) (ht : t = .boolean ∨ t = .byte ∨ t = .char ∨ t = .short) (hd : decode c.code pc = .ok (.ireturn, 1))
    (hc : cells ≤ C) (hs : slots ≤ S) (q : Q (some (.int (nar t z))) T.heap locs) : OGo p e below (OPost s Q C S) (T.setTop (mkF m pc Ls (.int z :: rest))) := by
  obtain ⟨fs, hr, hrun, hended, hW, hsame⟩ := X.leave (v := some (.int (nar t z))) (fun h => by rw [hret] at h; cases h) hk
  exact ⟨_, _, Jvm.RoadKit.retN X hx hret ht hd hr, hrun, hended, _, _, rfl, q, ⟨_, rfl⟩, hW, hsame.mono hc hs⟩
theorem OGo.retJ (X : Stand p l e R s m args below meth c T locs cells slots) (hx : p.tables.exec = Jvm.exec) (hk : meth.locks = false) {pc : Nat} {Ls : Array Slot} {z : Int64} {rest : List Value} (hret : meth.sig.returnType = some .long) (hd : decode c.code pc = .ok (.lreturn, 1))
    (hc : cells ≤ C) (hs : slots ≤ S) (q : Q (some (.long z)) T.heap locs) : OGo p e below (OPost s Q C S) (T.setTop (mkF m pc Ls (.long z :: rest))) := by
  obtain ⟨fs, hr, hrun, hended, hW, hsame⟩ := X.leave (v := some (.long z)) (fun h => by rw [hret] at h; cases h) hk
  exact ⟨_, _, retOut X hx hret rfl (Or.inr (Or.inl ⟨rfl, rfl, _, rfl⟩)) hd hr, hrun, hended, _, _, rfl, q, ⟨_, rfl⟩, hW, hsame.mono hc hs⟩
theorem OGo.retR (X : Stand p l e R s m args below meth c T locs cells slots) (hx : p.tables.exec = Jvm.exec) (hk : meth.locks = false) {pc : Nat} {Ls : Array Slot} {w : Value} {t : FieldType} {rest : List Value} (hret : meth.sig.returnType = some t) (ht : t.isReference = true) (hw : w.isRef = true) (hd : decode c.code pc = .ok (.areturn, 1))
    (hc : cells ≤ C) (hs : slots ≤ S) (q : Q (some w) T.heap locs) : OGo p e below (OPost s Q C S) (T.setTop (mkF m pc Ls (w :: rest))) := by
  obtain ⟨fs, hr, hrun, hended, hW, hsame⟩ := X.leave (v := some w) (fun h => by rw [hret] at h; cases h) hk
  have hn : narrow t w = w := by rcases ref_cases hw with rfl | ⟨a, rfl⟩ <;> cases t <;> first | rfl | (simp [FieldType.isReference] at ht)
  exact ⟨_, _, retOut X hx hret hn (Or.inr (Or.inr (Or.inr (Or.inr ⟨rfl, ht, hw⟩)))) hd hr, hrun, hended, _, _, rfl, q, ⟨_, rfl⟩, hW, hsame.mono hc hs⟩
theorem OGo.retV (X : Stand p l e R s m args below meth c T locs cells slots) (hx : p.tables.exec = Jvm.exec) (hk : meth.locks = false) {pc : Nat} {Ls : Array Slot} (hret : meth.sig.returnType = none) (hd : decode c.code pc = .ok (.return_, 1))
    (hc : cells ≤ C) (hs : slots ≤ S) (q : Q none T.heap locs) : OGo p e below (OPost s Q C S) (T.setTop (mkF m pc Ls [])) := by
  obtain ⟨fs, hr, hrun, hended, hW, hsame⟩ := X.leave (v := none) (fun _ => rfl) hk
  exact ⟨_, _, X.returnOut hx hret hd hr, hrun, hended, _, _, rfl, q, ⟨_, rfl⟩, hW, hsame.mono hc hs⟩
end OwnFlow
end Jvm.RoadKit
namespace Jvm.Pilot.@@N@@
open Jvm Jvm.ClassFile Sem Op Lib Jvm.Free Jvm.Stand Jvm.LawKit Jvm.RoadKit Bundle Jvm.Pilot.@@N@@.Jvm.D
theorem own_nat8 (n : Nat) : n &&& 8 = 8 * (n / 8 % 2) := by
  have h1 : (n &&& 8) % 2 ^ 4 = (n % 2 ^ 4) &&& (8 % 2 ^ 4) := Nat.and_mod_two_pow
  have h2 : n &&& 8 ≤ 8 := Nat.and_le_right
  have h3 : ∀ k : Fin 16, (k.1 &&& 8) = 8 * (k.1 / 8 % 2) := by decide
  have h4 := h3 ⟨n % 16, Nat.mod_lt _ (by decide)⟩
  simp only [Nat.reducePow, Nat.reduceMod] at h1 h4
  omega
theorem own_and8 (x : Int64) : ((x &&& (8 : Int64)) = (0 : Int64)) ↔ x.toInt / 8 % 2 = 0 := by
  have h1 : (x &&& (8 : Int64)).toBitVec.toNat = x.toBitVec.toNat &&& 8 := by
    rw [Int64.toBitVec_and, BitVec.toNat_and]; rfl
  rw [own_nat8] at h1
  have h2 : x.toInt = x.toBitVec.toInt := rfl
  rw [BitVec.toInt_eq_toNat_cond] at h2
  have h3 := x.toBitVec.isLt
  have h4 : ((x &&& (8 : Int64)) = (0 : Int64)) ↔ (x &&& (8 : Int64)).toBitVec.toNat = 0 := by
    constructor
    · intro h; rw [h]; rfl
    · intro h; apply Int64.toBitVec_inj.mp; apply BitVec.eq_of_toNat_eq; rw [h]; rfl
  rw [h4, h1]
  split at h2 <;> omega
theorem own_key (f : Int64) (c w : Int32) (fn key ex : Int64) (cr wt : Int32) (h1 : fn = (f &&& (1152921504606846975 : Int64))) (h2 : cr = (if (c &&& (1 : Int32)) = (0 : Int32) then (0 : Int32) else (1 : Int32))) (h3 : wt = (w &&& (7 : Int32)))
    (h4 : key = (((fn <<< ((4 : Int32) &&& 0x3f).toInt64) ||| (if cr = (0 : Int32) then (0 : Int64) else (8 : Int64))) ||| (wt.toInt64))) (h5 : ex = (((fn * (16 : Int64)) + (if cr = (0 : Int32) then (0 : Int64) else (8 : Int64))) + (wt.toInt64))) :
    key = ex ∧ ((key.toUInt64 >>> ((4 : Int32) &&& 0x3f).toInt64.toUInt64).toInt64) = fn ∧ (nar .boolean (if (key &&& (8 : Int64)) = (0 : Int64) then (0 : Int32) else (1 : Int32))) = cr ∧ ((key &&& (7 : Int64)).toInt32) = wt := by
  have a1 := c_maskL f 1152921504606846975 60 (by decide) (by decide)
  rw [← h1] at a1
  have a3 := c_mask w 7 3 (by decide) (by decide)
  rw [← h3] at a3
  have a4 := c_lshl fn 4 4 (by decide)
  have a5 := c_i2l wt
  obtain ⟨B, hB⟩ : ∃ B : Int64, B = (if cr = (0 : Int32) then (0 : Int64) else (8 : Int64)) := ⟨_, rfl⟩
  obtain ⟨A, hA⟩ : ∃ A : Int64, A = (fn <<< ((4 : Int32) &&& 0x3f).toInt64) := ⟨_, rfl⟩
  obtain ⟨W, hW⟩ : ∃ W : Int64, W = wt.toInt64 := ⟨_, rfl⟩
  rw [← hB, ← hW] at h4 h5
  rw [← hA] at h4 a4
  rw [← hW] at a5
  have b1 : (cr = 0 ∧ B.toInt = 0) ∨ (cr = 1 ∧ B.toInt = 8) := by
    by_cases q : (c &&& (1 : Int32)) = (0 : Int32)
    · rw [if_pos q] at h2; subst h2; left; rw [hB]; exact ⟨rfl, by decide⟩
    · rw [if_neg q] at h2; subst h2; right; rw [hB]; exact ⟨rfl, by decide⟩
  have b2 : 0 ≤ B.toInt ∧ B.toInt ≤ 8 ∧ B.toInt % 8 = 0 := by rcases b1 with ⟨-, q⟩ | ⟨-, q⟩ <;> omega
  have r1 := rng64 A
  have r2 := rng64 fn
  have o1 := c_orL A B 4 (by decide) 16 (by decide) (by omega) (by omega) (by omega)
  have r3 := rng64 (A ||| B)
  have o2 := c_orL (A ||| B) W 3 (by decide) 8 (by decide) (by omega) (by omega) (by omega)
  rw [← h4] at o2
  have r4 := rng64 key
  have m1 := c_lmul fn 16
  have e16 : (16 : Int64).toInt = 16 := by decide
  rw [e16] at m1
  have m2 := c_ladd (fn * 16) B
  have m3 := c_ladd ((fn * 16) + B) W
  rw [← h5] at m3
  have r5 := rng64 ex
  have r6 := rng64 (fn * 16)
  have r7 := rng64 (fn * 16 + B)
  have u1 := c_lushr key 4 4 (by decide) (by decide)
  have k7 := c_maskL key 7 3 (by decide) (by decide)
  have l7 := c_l2i (key &&& 7)
  have r8 := rng32 ((key &&& 7).toInt32)
  refine ⟨Int64.toInt_inj.mp (by omega), Int64.toInt_inj.mp (by rw [u1]; omega), ?_, Int32.toInt_inj.mp (by omega)⟩
  have q8 := own_and8 key
  rcases b1 with ⟨rfl, q⟩ | ⟨rfl, q⟩
  · rw [if_pos (q8.mpr (by omega))]; rfl
  · rw [if_neg (fun z => by have := q8.mp z; omega)]; rfl
theorem d1_0 : decode prog_3_method_2_code 0 = .ok (.lload_n 0, 1) := by decide +kernel
theorem d1_1 : decode prog_3_method_2_code 1 = .ok (.iconst 4, 1) := by decide +kernel
theorem d1_2 : decode prog_3_method_2_code 2 = .ok (.lshl, 1) := by decide +kernel
theorem d1_3 : decode prog_3_method_2_code 3 = .ok (.iload_n 2, 1) := by decide +kernel
theorem d1_4 : decode prog_3_method_2_code 4 = .ok (.ifCond .eq 9, 3) := by decide +kernel
theorem d1_7 : decode prog_3_method_2_code 7 = .ok (.ldc2_w 9, 3) := by decide +kernel
theorem d1_10 : decode prog_3_method_2_code 10 = .ok (.goto 4, 3) := by decide +kernel
theorem d1_13 : decode prog_3_method_2_code 13 = .ok (.lconst 0, 1) := by decide +kernel
theorem d1_14 : decode prog_3_method_2_code 14 = .ok (.lor, 1) := by decide +kernel
theorem d1_15 : decode prog_3_method_2_code 15 = .ok (.iload_n 3, 1) := by decide +kernel
theorem d1_16 : decode prog_3_method_2_code 16 = .ok (.i2l, 1) := by decide +kernel
theorem d1_17 : decode prog_3_method_2_code 17 = .ok (.lor, 1) := by decide +kernel
theorem d1_18 : decode prog_3_method_2_code 18 = .ok (.lreturn, 1) := by decide +kernel
theorem pn1 : plainName "com/example/keelform/keelform/EntryKey" = true := by first | (simp [plainName, overriddenIn]; done) | decide +kernel
theorem ef1 (m : MethodId) (x0 : Int64) (x1 : Int32) (x2 : Int32) : entryFrame m #[(.long x0), (.int x1), (.int x2)] 4 = mkF m 0 #[.val (.long x0), .second, .val (.int x1), .val (.int x2)] [] := by first | (simp [entryFrame, mkF, argsToLocals, Value.category]; done) | rfl
def Q1 (Z : State) (q1 : Int64) (p2 : Int32) (p3 : Int32) (h0 : Heap) (n0 : Nat) (v : Option Value) (h : Heap) (L : List Loc) : Prop := v = some (.long (((q1 <<< ((4 : Int32) &&& 0x3f).toInt64) ||| (if p2 = (0 : Int32) then (0 : Int64) else (8 : Int64))) ||| (p3.toInt64))) ∧ Fr n0 L ∧ h = h0
set_option maxRecDepth 65536 in
set_option maxHeartbeats 40000000 in
theorem rm1 (l : Launch) (Z : State) (a0 : Array Value) (hw : ∀ d ∈ tables_1, d.before a0 Z = true) (ws : List Jvm.Cond) (q1 : Int64) (p2 : Int32) (p3 : Int32) (h0 : Heap) (n0 : Nat) (Z0 : n0 ≤ h0.size) :
    MetFree l (⟨"com/example/keelform/keelform/EntryKey", "of", "(JZI)J"⟩ : MethodName) (head1 (Jvm.Cond.code (⟨"com/example/keelform/keelform/EntryKey", "of", "(JZI)J"⟩ : MethodName) prog_3_method_2_code 4 (some .long) :: ws) ({ frames := 0, cells := 0, slots := 0, locals := 0 } : Room)) (fun aQ UQ => aQ = #[(.long q1), (.int p2), (.int p3)] ∧ Z.Warmed39 UQ.vm ∧ UQ.heap = h0) (fun _ _ _ _ _ => True) (fun _ U o U' => ∃ v L, o = .returned v ∧ Q1 Z q1 p2 p3 h0 n0 v U'.heap L ∧ FrameEnd U o U' L ({ frames := 0, cells := 0, slots := 0, locals := 0 } : Room).cells ({ frames := 0, cells := 0, slots := 0, locals := 0 } : Room).slots) := by
  refine MetFree.of_bodySF (plainFor_of_name pn1) hisR ?_
  intro p e s m args below meth c s₁ Bd hml0 hP hK
  obtain ⟨rfl, hZ, hh⟩ := hP
  have hx := Bd.exec
  have hby := Bd.bytes
  have hml : c.maxLocals = 4 := hml0
  have hown : s.vm.findClass "com/example/keelform/keelform/EntryKey" = some m.cls := findClass_of_methodNamed Bd.named
  have hnm := (name_of_methodNamed Bd.named Bd.method).1
  have X0 : Stand p l e ({ frames := 0, cells := 0, slots := 0, locals := 0 } : Room) s m #[(.long q1), (.int p2), (.int p3)] below meth c s₁ [] 0 0 := Stand.of_body Bd
  have e0 : s₁.heap = h0 := by rw [← hh, Bd.state]; rfl
  have N0 := Fr.nil n0
  show OGo p e below (OPost s (Q1 Z q1 p2 p3 h0 n0) ({ frames := 0, cells := 0, slots := 0, locals := 0 } : Room).cells ({ frames := 0, cells := 0, slots := 0, locals := 0 } : Room).slots) (s₁.setTop (entryFrame m #[(.long q1), (.int p2), (.int p3)] 4))
  refine OGo.step (fun uK kK => castTop (ef1 m q1 p2 p3) kK) ?_
  show OGo p e below _ (s₁.setTop (mkF m 0 #[.val (.long q1), .second, .val (.int p2), .val (.int p3)] []))
  refine OGo.step (fun uK kK => XS.lloadN X0.here hx rfl (hb hby d1_0) rfl kK) ?_
  show OGo p e below _ (s₁.setTop (mkF m 1 #[.val (.long q1), .second, .val (.int p2), .val (.int p3)] [(.long q1)]))
  refine OGo.step (fun uK kK => XS.iconst X0.here hx rfl (hb hby d1_1) kK) ?_
  show OGo p e below _ (s₁.setTop (mkF m 2 #[.val (.long q1), .second, .val (.int p2), .val (.int p3)] [(.int (4 : Int32)), (.long q1)]))
  refine OGo.step (fun uK kK => XS.lshl X0.here hx rfl (hb hby d1_2) rfl kK) ?_
  show OGo p e below _ (s₁.setTop (mkF m 3 #[.val (.long q1), .second, .val (.int p2), .val (.int p3)] [(.long (q1 <<< ((4 : Int32) &&& 0x3f).toInt64))]))
  refine OGo.step (fun uK kK => XS.iloadN X0.here hx rfl (hb hby d1_3) rfl kK) ?_
  show OGo p e below _ (s₁.setTop (mkF m 4 #[.val (.long q1), .second, .val (.int p2), .val (.int p3)] [(.int p2), (.long (q1 <<< ((4 : Int32) &&& 0x3f).toInt64))]))
  refine OGo.step (t' := s₁.setTop (mkF m 14 #[.val (.long q1), .second, .val (.int p2), .val (.int p3)] [(.long (if p2 = (0 : Int32) then (0 : Int64) else (8 : Int64))), (.long (q1 <<< ((4 : Int32) &&& 0x3f).toInt64))])) (fun uK kK => ?_) ?_
  · show Steps p.tables e below (s₁.setTop (mkF m 4 #[.val (.long q1), .second, .val (.int p2), .val (.int p3)] [(.int p2), (.long (q1 <<< ((4 : Int32) &&& 0x3f).toInt64))])) _
    by_cases hm4_1 : p2 = (0 : Int32)
    · try rw [if_pos hm4_1] at kK
      refine XS.ifYes X0.here hx rfl (pc0 := 4) (pc' := 13) rfl (hb hby d1_4) rfl ((if0 _ _).trans (teq hm4_1).1) (by decide) (by decide) ?_
      refine XS.lconst X0.here hx rfl (hb hby d1_13) ?_
      show Steps p.tables e below (s₁.setTop (mkF m 14 #[.val (.long q1), .second, .val (.int p2), .val (.int p3)] [(.long (0 : Int64)), (.long (q1 <<< ((4 : Int32) &&& 0x3f).toInt64))])) _
      exact kK
    · try rw [if_neg hm4_1] at kK
      refine XS.ifNo X0.here hx rfl (hb hby d1_4) rfl ((if0 _ _).trans (feq hm4_1).1) ?_
      refine X0.ldc2J hx hown (mvT hZ (hw _ (List.mem_of_getElem? (i := 12) rfl))) rfl (hb hby d1_7) ?_
      show Steps p.tables e below (s₁.setTop (mkF m 10 #[.val (.long q1), .second, .val (.int p2), .val (.int p3)] [(.long (8 : Int64)), (.long (q1 <<< ((4 : Int32) &&& 0x3f).toInt64))])) _
      refine XS.goto X0.here hx rfl (pc0 := 10) (pc' := 14) rfl (hb hby d1_10) (by decide) (by decide) ?_
      show Steps p.tables e below (s₁.setTop (mkF m 14 #[.val (.long q1), .second, .val (.int p2), .val (.int p3)] [(.long (8 : Int64)), (.long (q1 <<< ((4 : Int32) &&& 0x3f).toInt64))])) _
      exact kK
  show OGo p e below _ (s₁.setTop (mkF m 14 #[.val (.long q1), .second, .val (.int p2), .val (.int p3)] [(.long (if p2 = (0 : Int32) then (0 : Int64) else (8 : Int64))), (.long (q1 <<< ((4 : Int32) &&& 0x3f).toInt64))]))
  refine OGo.step (fun uK kK => XS.lor X0.here hx rfl (hb hby d1_14) rfl kK) ?_
  show OGo p e below _ (s₁.setTop (mkF m 15 #[.val (.long q1), .second, .val (.int p2), .val (.int p3)] [(.long ((q1 <<< ((4 : Int32) &&& 0x3f).toInt64) ||| (if p2 = (0 : Int32) then (0 : Int64) else (8 : Int64))))]))
  refine OGo.step (fun uK kK => XS.iloadN X0.here hx rfl (hb hby d1_15) rfl kK) ?_
  show OGo p e below _ (s₁.setTop (mkF m 16 #[.val (.long q1), .second, .val (.int p2), .val (.int p3)] [(.int p3), (.long ((q1 <<< ((4 : Int32) &&& 0x3f).toInt64) ||| (if p2 = (0 : Int32) then (0 : Int64) else (8 : Int64))))]))
  refine OGo.step (fun uK kK => XS.i2l X0.here hx rfl (hb hby d1_16) rfl kK) ?_
  show OGo p e below _ (s₁.setTop (mkF m 17 #[.val (.long q1), .second, .val (.int p2), .val (.int p3)] [(.long (p3.toInt64)), (.long ((q1 <<< ((4 : Int32) &&& 0x3f).toInt64) ||| (if p2 = (0 : Int32) then (0 : Int64) else (8 : Int64))))]))
  refine OGo.step (fun uK kK => XS.lor X0.here hx rfl (hb hby d1_17) rfl kK) ?_
  show OGo p e below _ (s₁.setTop (mkF m 18 #[.val (.long q1), .second, .val (.int p2), .val (.int p3)] [(.long (((q1 <<< ((4 : Int32) &&& 0x3f).toInt64) ||| (if p2 = (0 : Int32) then (0 : Int64) else (8 : Int64))) ||| (p3.toInt64)))]))
  exact OGo.retJ X0 hx Bd.notSynchronized Bd.returns (hb hby d1_18) (by decide) (by decide) (by show Q1 Z q1 p2 p3 h0 n0 _ s₁.heap _; rw [e0]; exact ⟨rfl, N0, rfl⟩)
theorem d2_0 : decode prog_3_method_3_code 0 = .ok (.lload_n 0, 1) := by decide +kernel
theorem d2_1 : decode prog_3_method_3_code 1 = .ok (.iconst 4, 1) := by decide +kernel
theorem d2_2 : decode prog_3_method_3_code 2 = .ok (.lushr, 1) := by decide +kernel
theorem d2_3 : decode prog_3_method_3_code 3 = .ok (.lreturn, 1) := by decide +kernel
theorem pn2 : plainName "com/example/keelform/keelform/EntryKey" = true := by first | (simp [plainName, overriddenIn]; done) | decide +kernel
theorem ef2 (m : MethodId) (x0 : Int64) : entryFrame m #[(.long x0)] 2 = mkF m 0 #[.val (.long x0), .second] [] := by first | (simp [entryFrame, mkF, argsToLocals, Value.category]; done) | rfl
def Q2 (Z : State) (q1 : Int64) (h0 : Heap) (n0 : Nat) (v : Option Value) (h : Heap) (L : List Loc) : Prop := v = some (.long ((q1.toUInt64 >>> ((4 : Int32) &&& 0x3f).toInt64.toUInt64).toInt64)) ∧ Fr n0 L ∧ h = h0
set_option maxRecDepth 65536 in
set_option maxHeartbeats 40000000 in
theorem rm2 (l : Launch) (Z : State) (a0 : Array Value) (hw : ∀ d ∈ tables_1, d.before a0 Z = true) (ws : List Jvm.Cond) (q1 : Int64) (h0 : Heap) (n0 : Nat) (Z0 : n0 ≤ h0.size) :
    MetFree l (⟨"com/example/keelform/keelform/EntryKey", "fieldNumber", "(J)J"⟩ : MethodName) (head1 (Jvm.Cond.code (⟨"com/example/keelform/keelform/EntryKey", "fieldNumber", "(J)J"⟩ : MethodName) prog_3_method_3_code 2 (some .long) :: ws) ({ frames := 0, cells := 0, slots := 0, locals := 0 } : Room)) (fun aQ UQ => aQ = #[(.long q1)] ∧ Z.Warmed39 UQ.vm ∧ UQ.heap = h0) (fun _ _ _ _ _ => True) (fun _ U o U' => ∃ v L, o = .returned v ∧ Q2 Z q1 h0 n0 v U'.heap L ∧ FrameEnd U o U' L ({ frames := 0, cells := 0, slots := 0, locals := 0 } : Room).cells ({ frames := 0, cells := 0, slots := 0, locals := 0 } : Room).slots) := by
  refine MetFree.of_bodySF (plainFor_of_name pn2) hisR ?_
  intro p e s m args below meth c s₁ Bd hml0 hP hK
  obtain ⟨rfl, hZ, hh⟩ := hP
  have hx := Bd.exec
  have hby := Bd.bytes
  have hml : c.maxLocals = 2 := hml0
  have hown : s.vm.findClass "com/example/keelform/keelform/EntryKey" = some m.cls := findClass_of_methodNamed Bd.named
  have hnm := (name_of_methodNamed Bd.named Bd.method).1
  have X0 : Stand p l e ({ frames := 0, cells := 0, slots := 0, locals := 0 } : Room) s m #[(.long q1)] below meth c s₁ [] 0 0 := Stand.of_body Bd
  have e0 : s₁.heap = h0 := by rw [← hh, Bd.state]; rfl
  have N0 := Fr.nil n0
  show OGo p e below (OPost s (Q2 Z q1 h0 n0) ({ frames := 0, cells := 0, slots := 0, locals := 0 } : Room).cells ({ frames := 0, cells := 0, slots := 0, locals := 0 } : Room).slots) (s₁.setTop (entryFrame m #[(.long q1)] 2))
  refine OGo.step (fun uK kK => castTop (ef2 m q1) kK) ?_
  show OGo p e below _ (s₁.setTop (mkF m 0 #[.val (.long q1), .second] []))
  refine OGo.step (fun uK kK => XS.lloadN X0.here hx rfl (hb hby d2_0) rfl kK) ?_
  show OGo p e below _ (s₁.setTop (mkF m 1 #[.val (.long q1), .second] [(.long q1)]))
  refine OGo.step (fun uK kK => XS.iconst X0.here hx rfl (hb hby d2_1) kK) ?_
  show OGo p e below _ (s₁.setTop (mkF m 2 #[.val (.long q1), .second] [(.int (4 : Int32)), (.long q1)]))
  refine OGo.step (fun uK kK => XS.lushr X0.here hx rfl (hb hby d2_2) rfl kK) ?_
  show OGo p e below _ (s₁.setTop (mkF m 3 #[.val (.long q1), .second] [(.long ((q1.toUInt64 >>> ((4 : Int32) &&& 0x3f).toInt64.toUInt64).toInt64))]))
  exact OGo.retJ X0 hx Bd.notSynchronized Bd.returns (hb hby d2_3) (by decide) (by decide) (by show Q2 Z q1 h0 n0 _ s₁.heap _; rw [e0]; exact ⟨rfl, N0, rfl⟩)
theorem d3_0 : decode prog_3_method_4_code 0 = .ok (.lload_n 0, 1) := by decide +kernel
theorem d3_1 : decode prog_3_method_4_code 1 = .ok (.ldc2_w 9, 3) := by decide +kernel
theorem d3_4 : decode prog_3_method_4_code 4 = .ok (.land, 1) := by decide +kernel
theorem d3_5 : decode prog_3_method_4_code 5 = .ok (.lconst 0, 1) := by decide +kernel
theorem d3_6 : decode prog_3_method_4_code 6 = .ok (.lcmp, 1) := by decide +kernel
theorem d3_7 : decode prog_3_method_4_code 7 = .ok (.ifCond .eq 7, 3) := by decide +kernel
theorem d3_10 : decode prog_3_method_4_code 10 = .ok (.iconst 1, 1) := by decide +kernel
theorem d3_11 : decode prog_3_method_4_code 11 = .ok (.goto 4, 3) := by decide +kernel
theorem d3_14 : decode prog_3_method_4_code 14 = .ok (.iconst 0, 1) := by decide +kernel
theorem d3_15 : decode prog_3_method_4_code 15 = .ok (.ireturn, 1) := by decide +kernel
theorem pn3 : plainName "com/example/keelform/keelform/EntryKey" = true := by first | (simp [plainName, overriddenIn]; done) | decide +kernel
theorem ef3 (m : MethodId) (x0 : Int64) : entryFrame m #[(.long x0)] 2 = mkF m 0 #[.val (.long x0), .second] [] := by first | (simp [entryFrame, mkF, argsToLocals, Value.category]; done) | rfl
def Q3 (Z : State) (q1 : Int64) (h0 : Heap) (n0 : Nat) (v : Option Value) (h : Heap) (L : List Loc) : Prop := v = some (.int (nar .boolean (if (q1 &&& (8 : Int64)) = (0 : Int64) then (0 : Int32) else (1 : Int32)))) ∧ Fr n0 L ∧ h = h0
set_option maxRecDepth 65536 in
set_option maxHeartbeats 40000000 in
theorem rm3 (l : Launch) (Z : State) (a0 : Array Value) (hw : ∀ d ∈ tables_1, d.before a0 Z = true) (ws : List Jvm.Cond) (q1 : Int64) (h0 : Heap) (n0 : Nat) (Z0 : n0 ≤ h0.size) :
    MetFree l (⟨"com/example/keelform/keelform/EntryKey", "isCritical", "(J)Z"⟩ : MethodName) (head1 (Jvm.Cond.code (⟨"com/example/keelform/keelform/EntryKey", "isCritical", "(J)Z"⟩ : MethodName) prog_3_method_4_code 2 (some .boolean) :: ws) ({ frames := 0, cells := 0, slots := 0, locals := 0 } : Room)) (fun aQ UQ => aQ = #[(.long q1)] ∧ Z.Warmed39 UQ.vm ∧ UQ.heap = h0) (fun _ _ _ _ _ => True) (fun _ U o U' => ∃ v L, o = .returned v ∧ Q3 Z q1 h0 n0 v U'.heap L ∧ FrameEnd U o U' L ({ frames := 0, cells := 0, slots := 0, locals := 0 } : Room).cells ({ frames := 0, cells := 0, slots := 0, locals := 0 } : Room).slots) := by
  refine MetFree.of_bodySF (plainFor_of_name pn3) hisR ?_
  intro p e s m args below meth c s₁ Bd hml0 hP hK
  obtain ⟨rfl, hZ, hh⟩ := hP
  have hx := Bd.exec
  have hby := Bd.bytes
  have hml : c.maxLocals = 2 := hml0
  have hown : s.vm.findClass "com/example/keelform/keelform/EntryKey" = some m.cls := findClass_of_methodNamed Bd.named
  have hnm := (name_of_methodNamed Bd.named Bd.method).1
  have X0 : Stand p l e ({ frames := 0, cells := 0, slots := 0, locals := 0 } : Room) s m #[(.long q1)] below meth c s₁ [] 0 0 := Stand.of_body Bd
  have e0 : s₁.heap = h0 := by rw [← hh, Bd.state]; rfl
  have N0 := Fr.nil n0
  show OGo p e below (OPost s (Q3 Z q1 h0 n0) ({ frames := 0, cells := 0, slots := 0, locals := 0 } : Room).cells ({ frames := 0, cells := 0, slots := 0, locals := 0 } : Room).slots) (s₁.setTop (entryFrame m #[(.long q1)] 2))
  refine OGo.step (fun uK kK => castTop (ef3 m q1) kK) ?_
  show OGo p e below _ (s₁.setTop (mkF m 0 #[.val (.long q1), .second] []))
  refine OGo.step (fun uK kK => XS.lloadN X0.here hx rfl (hb hby d3_0) rfl kK) ?_
  show OGo p e below _ (s₁.setTop (mkF m 1 #[.val (.long q1), .second] [(.long q1)]))
  refine OGo.step (fun uK kK => X0.ldc2J hx hown (mvT hZ (hw _ (List.mem_of_getElem? (i := 12) rfl))) rfl (hb hby d3_1) kK) ?_
  show OGo p e below _ (s₁.setTop (mkF m 4 #[.val (.long q1), .second] [(.long (8 : Int64)), (.long q1)]))
  refine OGo.step (fun uK kK => XS.land X0.here hx rfl (hb hby d3_4) rfl kK) ?_
  show OGo p e below _ (s₁.setTop (mkF m 5 #[.val (.long q1), .second] [(.long (q1 &&& (8 : Int64)))]))
  refine OGo.step (fun uK kK => XS.lconst X0.here hx rfl (hb hby d3_5) kK) ?_
  show OGo p e below _ (s₁.setTop (mkF m 6 #[.val (.long q1), .second] [(.long (0 : Int64)), (.long (q1 &&& (8 : Int64)))]))
  refine OGo.step (fun uK kK => XS.lcmp X0.here hx rfl (hb hby d3_6) rfl kK) ?_
  show OGo p e below _ (s₁.setTop (mkF m 7 #[.val (.long q1), .second] [(.int (lcmpW (q1 &&& (8 : Int64)) (0 : Int64)))]))
  refine OGo.step (t' := s₁.setTop (mkF m 15 #[.val (.long q1), .second] [(.int (if (q1 &&& (8 : Int64)) = (0 : Int64) then (0 : Int32) else (1 : Int32)))])) (fun uK kK => ?_) ?_
  · show Steps p.tables e below (s₁.setTop (mkF m 7 #[.val (.long q1), .second] [(.int (lcmpW (q1 &&& (8 : Int64)) (0 : Int64)))])) _
    by_cases hm7_1 : (q1 &&& (8 : Int64)) = (0 : Int64)
    · try rw [if_pos hm7_1] at kK
      refine XS.ifYes X0.here hx rfl (pc0 := 7) (pc' := 14) rfl (hb hby d3_7) rfl ((if0 _ _).trans (teq ((lw_eq _ _).mpr hm7_1)).1) (by decide) (by decide) ?_
      refine XS.iconst X0.here hx rfl (hb hby d3_14) ?_
      show Steps p.tables e below (s₁.setTop (mkF m 15 #[.val (.long q1), .second] [(.int (0 : Int32))])) _
      exact kK
    · try rw [if_neg hm7_1] at kK
      refine XS.ifNo X0.here hx rfl (hb hby d3_7) rfl ((if0 _ _).trans (feq (fun q => hm7_1 ((lw_eq _ _).mp q))).1) ?_
      refine XS.iconst X0.here hx rfl (hb hby d3_10) ?_
      show Steps p.tables e below (s₁.setTop (mkF m 11 #[.val (.long q1), .second] [(.int (1 : Int32))])) _
      refine XS.goto X0.here hx rfl (pc0 := 11) (pc' := 15) rfl (hb hby d3_11) (by decide) (by decide) ?_
      show Steps p.tables e below (s₁.setTop (mkF m 15 #[.val (.long q1), .second] [(.int (1 : Int32))])) _
      exact kK
  show OGo p e below _ (s₁.setTop (mkF m 15 #[.val (.long q1), .second] [(.int (if (q1 &&& (8 : Int64)) = (0 : Int64) then (0 : Int32) else (1 : Int32)))]))
  exact OGo.retN X0 hx Bd.notSynchronized (t := .boolean) Bd.returns (by simp) (hb hby d3_15) (by decide) (by decide) (by show Q3 Z q1 h0 n0 _ s₁.heap _; rw [e0]; exact ⟨rfl, N0, rfl⟩)
theorem d4_0 : decode prog_3_method_5_code 0 = .ok (.lload_n 0, 1) := by decide +kernel
theorem d4_1 : decode prog_3_method_5_code 1 = .ok (.ldc2_w 11, 3) := by decide +kernel
theorem d4_4 : decode prog_3_method_5_code 4 = .ok (.land, 1) := by decide +kernel
theorem d4_5 : decode prog_3_method_5_code 5 = .ok (.l2i, 1) := by decide +kernel
theorem d4_6 : decode prog_3_method_5_code 6 = .ok (.ireturn, 1) := by decide +kernel
theorem pn4 : plainName "com/example/keelform/keelform/EntryKey" = true := by first | (simp [plainName, overriddenIn]; done) | decide +kernel
theorem ef4 (m : MethodId) (x0 : Int64) : entryFrame m #[(.long x0)] 2 = mkF m 0 #[.val (.long x0), .second] [] := by first | (simp [entryFrame, mkF, argsToLocals, Value.category]; done) | rfl
def Q4 (Z : State) (q1 : Int64) (h0 : Heap) (n0 : Nat) (v : Option Value) (h : Heap) (L : List Loc) : Prop := v = some (.int ((q1 &&& (7 : Int64)).toInt32)) ∧ Fr n0 L ∧ h = h0
set_option maxRecDepth 65536 in
set_option maxHeartbeats 40000000 in
theorem rm4 (l : Launch) (Z : State) (a0 : Array Value) (hw : ∀ d ∈ tables_1, d.before a0 Z = true) (ws : List Jvm.Cond) (q1 : Int64) (h0 : Heap) (n0 : Nat) (Z0 : n0 ≤ h0.size) :
    MetFree l (⟨"com/example/keelform/keelform/EntryKey", "wireType", "(J)I"⟩ : MethodName) (head1 (Jvm.Cond.code (⟨"com/example/keelform/keelform/EntryKey", "wireType", "(J)I"⟩ : MethodName) prog_3_method_5_code 2 (some .int) :: ws) ({ frames := 0, cells := 0, slots := 0, locals := 0 } : Room)) (fun aQ UQ => aQ = #[(.long q1)] ∧ Z.Warmed39 UQ.vm ∧ UQ.heap = h0) (fun _ _ _ _ _ => True) (fun _ U o U' => ∃ v L, o = .returned v ∧ Q4 Z q1 h0 n0 v U'.heap L ∧ FrameEnd U o U' L ({ frames := 0, cells := 0, slots := 0, locals := 0 } : Room).cells ({ frames := 0, cells := 0, slots := 0, locals := 0 } : Room).slots) := by
  refine MetFree.of_bodySF (plainFor_of_name pn4) hisR ?_
  intro p e s m args below meth c s₁ Bd hml0 hP hK
  obtain ⟨rfl, hZ, hh⟩ := hP
  have hx := Bd.exec
  have hby := Bd.bytes
  have hml : c.maxLocals = 2 := hml0
  have hown : s.vm.findClass "com/example/keelform/keelform/EntryKey" = some m.cls := findClass_of_methodNamed Bd.named
  have hnm := (name_of_methodNamed Bd.named Bd.method).1
  have X0 : Stand p l e ({ frames := 0, cells := 0, slots := 0, locals := 0 } : Room) s m #[(.long q1)] below meth c s₁ [] 0 0 := Stand.of_body Bd
  have e0 : s₁.heap = h0 := by rw [← hh, Bd.state]; rfl
  have N0 := Fr.nil n0
  show OGo p e below (OPost s (Q4 Z q1 h0 n0) ({ frames := 0, cells := 0, slots := 0, locals := 0 } : Room).cells ({ frames := 0, cells := 0, slots := 0, locals := 0 } : Room).slots) (s₁.setTop (entryFrame m #[(.long q1)] 2))
  refine OGo.step (fun uK kK => castTop (ef4 m q1) kK) ?_
  show OGo p e below _ (s₁.setTop (mkF m 0 #[.val (.long q1), .second] []))
  refine OGo.step (fun uK kK => XS.lloadN X0.here hx rfl (hb hby d4_0) rfl kK) ?_
  show OGo p e below _ (s₁.setTop (mkF m 1 #[.val (.long q1), .second] [(.long q1)]))
  refine OGo.step (fun uK kK => X0.ldc2J hx hown (mvT hZ (hw _ (List.mem_of_getElem? (i := 16) rfl))) rfl (hb hby d4_1) kK) ?_
  show OGo p e below _ (s₁.setTop (mkF m 4 #[.val (.long q1), .second] [(.long (7 : Int64)), (.long q1)]))
  refine OGo.step (fun uK kK => XS.land X0.here hx rfl (hb hby d4_4) rfl kK) ?_
  show OGo p e below _ (s₁.setTop (mkF m 5 #[.val (.long q1), .second] [(.long (q1 &&& (7 : Int64)))]))
  refine OGo.step (fun uK kK => XS.l2i X0.here hx rfl (hb hby d4_5) rfl kK) ?_
  show OGo p e below _ (s₁.setTop (mkF m 6 #[.val (.long q1), .second] [(.int ((q1 &&& (7 : Int64)).toInt32))]))
  exact OGo.retI X0 hx Bd.notSynchronized Bd.returns (hb hby d4_6) (by decide) (by decide) (by show Q4 Z q1 h0 n0 _ s₁.heap _; rw [e0]; exact ⟨rfl, N0, rfl⟩)
theorem pn0 : plainName "com/example/keelform/keelform/EntryKeyOfPinLaw" = true := by first | (simp [plainName, overriddenIn]; done) | decide +kernel
theorem pd0_0 : parseMethodDescriptor "(JZI)J" = some ⟨[.long, .boolean, .int], some .long⟩ := by decide +kernel
theorem pd0_1 : parseMethodDescriptor "(J)J" = some ⟨[.long], some .long⟩ := by decide +kernel
theorem pd0_2 : parseMethodDescriptor "(J)Z" = some ⟨[.long], some .boolean⟩ := by decide +kernel
theorem pd0_3 : parseMethodDescriptor "(J)I" = some ⟨[.long], some .int⟩ := by decide +kernel
theorem ef0 (m : MethodId) (x0 : Int64) (x1 : Int32) (x2 : Int32) : entryFrame m #[(.long x0), (.int x1), (.int x2)] maxLocals = mkF m 0 #[.val (.long x0), .second, .val (.int x1), .val (.int x2), .unset, .unset, .unset, .unset, .unset, .unset, .unset, .unset] [] := by first | (simp [entryFrame, mkF, argsToLocals, Value.category, maxLocals]; done) | rfl
def Q0 (Z : State) (f0 : Int64) (c1 : Int32) (w2 : Int32) (h0 : Heap) (n0 : Nat) (v : Option Value) (h : Heap) (L : List Loc) : Prop := v = some (.int 1) ∧ Fr n0 L
set_option maxRecDepth 65536 in
set_option maxHeartbeats 40000000 in
theorem rm0 (l : Launch) (Z : State) (a0 : Array Value) (hw : ∀ d ∈ tables_1, d.before a0 Z = true) (ws : List Jvm.Cond) (f0 : Int64) (c1 : Int32) (w2 : Int32) (h0 : Heap) (n0 : Nat) (Z0 : n0 ≤ h0.size) :
    MetFree l x (head1 (Jvm.Cond.code x code maxLocals ret :: ws) room_1) (fun aQ UQ => aQ = #[(.long f0), (.int c1), (.int w2)] ∧ Z.Warmed39 UQ.vm ∧ UQ.heap = h0) (fun _ _ _ _ _ => True) (fun _ U o U' => ∃ v L, o = .returned v ∧ Q0 Z f0 c1 w2 h0 n0 v U'.heap L ∧ FrameEnd U o U' L room_1.cells room_1.slots) := by
  refine MetFree.of_bodySF (plainFor_of_name pn0) hisR ?_
  intro p e s m args below meth c s₁ Bd hml0 hP hK
  obtain ⟨rfl, hZ, hh⟩ := hP
  have hx := Bd.exec
  have hby := Bd.bytes
  have hml : c.maxLocals = 12 := hml0
  have hown : s.vm.findClass "com/example/keelform/keelform/EntryKeyOfPinLaw" = some m.cls := findClass_of_methodNamed Bd.named
  have hnm := (name_of_methodNamed Bd.named Bd.method).1
  have X0 : Stand p l e room_1 s m #[(.long f0), (.int c1), (.int w2)] below meth c s₁ [] 0 0 := Stand.of_body Bd
  have e0 : s₁.heap = h0 := by rw [← hh, Bd.state]; rfl
  have N0 := Fr.nil n0
  show OGo p e below (OPost s (Q0 Z f0 c1 w2 h0 n0) room_1.cells room_1.slots) (s₁.setTop (entryFrame m #[(.long f0), (.int c1), (.int w2)] maxLocals))
  refine OGo.step (fun uK kK => castTop (ef0 m f0 c1 w2) kK) ?_
  show OGo p e below _ (s₁.setTop (mkF m 0 #[.val (.long f0), .second, .val (.int c1), .val (.int w2), .unset, .unset, .unset, .unset, .unset, .unset, .unset, .unset] []))
  refine OGo.step (fun uK kK => XS.lloadN X0.here hx rfl (hb hby at_0) rfl kK) ?_
  show OGo p e below _ (s₁.setTop (mkF m 1 #[.val (.long f0), .second, .val (.int c1), .val (.int w2), .unset, .unset, .unset, .unset, .unset, .unset, .unset, .unset] [(.long f0)]))
  refine OGo.step (fun uK kK => X0.ldc2J hx hown (mvT hZ (hw _ (List.mem_of_getElem? (i := 0) rfl))) rfl (hb hby at_1) kK) ?_
  show OGo p e below _ (s₁.setTop (mkF m 4 #[.val (.long f0), .second, .val (.int c1), .val (.int w2), .unset, .unset, .unset, .unset, .unset, .unset, .unset, .unset] [(.long (1152921504606846975 : Int64)), (.long f0)]))
  refine OGo.step (fun uK kK => XS.land X0.here hx rfl (hb hby at_4) rfl kK) ?_
  show OGo p e below _ (s₁.setTop (mkF m 5 #[.val (.long f0), .second, .val (.int c1), .val (.int w2), .unset, .unset, .unset, .unset, .unset, .unset, .unset, .unset] [(.long (f0 &&& (1152921504606846975 : Int64)))]))
  obtain ⟨fn, ev_fn⟩ : ∃ z : Int64, z = (f0 &&& (1152921504606846975 : Int64)) := ⟨_, rfl⟩
  rw [← ev_fn]
  show OGo p e below _ (s₁.setTop (mkF m 5 #[.val (.long f0), .second, .val (.int c1), .val (.int w2), .unset, .unset, .unset, .unset, .unset, .unset, .unset, .unset] [(.long fn)]))
  refine OGo.step (fun uK kK => XS.lstore X0.here hx rfl (hb hby at_5) rfl (l' := #[.val (.long f0), .second, .val (.int c1), .val (.int w2), .val (.long fn), .second, .unset, .unset, .unset, .unset, .unset, .unset]) rfl kK) ?_
  show OGo p e below _ (s₁.setTop (mkF m 7 #[.val (.long f0), .second, .val (.int c1), .val (.int w2), .val (.long fn), .second, .unset, .unset, .unset, .unset, .unset, .unset] []))
  refine OGo.step (fun uK kK => XS.iloadN X0.here hx rfl (hb hby at_7) rfl kK) ?_
  show OGo p e below _ (s₁.setTop (mkF m 8 #[.val (.long f0), .second, .val (.int c1), .val (.int w2), .val (.long fn), .second, .unset, .unset, .unset, .unset, .unset, .unset] [(.int c1)]))
  refine OGo.step (fun uK kK => XS.iconst X0.here hx rfl (hb hby at_8) kK) ?_
  show OGo p e below _ (s₁.setTop (mkF m 9 #[.val (.long f0), .second, .val (.int c1), .val (.int w2), .val (.long fn), .second, .unset, .unset, .unset, .unset, .unset, .unset] [(.int (1 : Int32)), (.int c1)]))
  refine OGo.step (fun uK kK => XS.iand X0.here hx rfl (hb hby at_9) rfl kK) ?_
  show OGo p e below _ (s₁.setTop (mkF m 10 #[.val (.long f0), .second, .val (.int c1), .val (.int w2), .val (.long fn), .second, .unset, .unset, .unset, .unset, .unset, .unset] [(.int (c1 &&& (1 : Int32)))]))
  refine OGo.step (t' := s₁.setTop (mkF m 18 #[.val (.long f0), .second, .val (.int c1), .val (.int w2), .val (.long fn), .second, .unset, .unset, .unset, .unset, .unset, .unset] [(.int (if (c1 &&& (1 : Int32)) = (0 : Int32) then (0 : Int32) else (1 : Int32)))])) (fun uK kK => ?_) ?_
  · show Steps p.tables e below (s₁.setTop (mkF m 10 #[.val (.long f0), .second, .val (.int c1), .val (.int w2), .val (.long fn), .second, .unset, .unset, .unset, .unset, .unset, .unset] [(.int (c1 &&& (1 : Int32)))])) _
    by_cases hm10_1 : (c1 &&& (1 : Int32)) = (0 : Int32)
    · try rw [if_pos hm10_1] at kK
      refine XS.ifYes X0.here hx rfl (pc0 := 10) (pc' := 17) rfl (hb hby at_10) rfl ((if0 _ _).trans (teq hm10_1).1) (by decide) (by decide) ?_
      refine XS.iconst X0.here hx rfl (hb hby at_17) ?_
      show Steps p.tables e below (s₁.setTop (mkF m 18 #[.val (.long f0), .second, .val (.int c1), .val (.int w2), .val (.long fn), .second, .unset, .unset, .unset, .unset, .unset, .unset] [(.int (0 : Int32))])) _
      exact kK
    · try rw [if_neg hm10_1] at kK
      refine XS.ifNo X0.here hx rfl (hb hby at_10) rfl ((if0 _ _).trans (feq hm10_1).1) ?_
      refine XS.iconst X0.here hx rfl (hb hby at_13) ?_
      show Steps p.tables e below (s₁.setTop (mkF m 14 #[.val (.long f0), .second, .val (.int c1), .val (.int w2), .val (.long fn), .second, .unset, .unset, .unset, .unset, .unset, .unset] [(.int (1 : Int32))])) _
      refine XS.goto X0.here hx rfl (pc0 := 14) (pc' := 18) rfl (hb hby at_14) (by decide) (by decide) ?_
      show Steps p.tables e below (s₁.setTop (mkF m 18 #[.val (.long f0), .second, .val (.int c1), .val (.int w2), .val (.long fn), .second, .unset, .unset, .unset, .unset, .unset, .unset] [(.int (1 : Int32))])) _
      exact kK
  show OGo p e below _ (s₁.setTop (mkF m 18 #[.val (.long f0), .second, .val (.int c1), .val (.int w2), .val (.long fn), .second, .unset, .unset, .unset, .unset, .unset, .unset] [(.int (if (c1 &&& (1 : Int32)) = (0 : Int32) then (0 : Int32) else (1 : Int32)))]))
  obtain ⟨cr, ev_cr⟩ : ∃ z : Int32, z = (if (c1 &&& (1 : Int32)) = (0 : Int32) then (0 : Int32) else (1 : Int32)) := ⟨_, rfl⟩
  rw [← ev_cr]
  show OGo p e below _ (s₁.setTop (mkF m 18 #[.val (.long f0), .second, .val (.int c1), .val (.int w2), .val (.long fn), .second, .unset, .unset, .unset, .unset, .unset, .unset] [(.int cr)]))
  refine OGo.step (fun uK kK => XS.istore X0.here hx rfl (hb hby at_18) rfl (l' := #[.val (.long f0), .second, .val (.int c1), .val (.int w2), .val (.long fn), .second, .val (.int cr), .unset, .unset, .unset, .unset, .unset]) rfl kK) ?_
  show OGo p e below _ (s₁.setTop (mkF m 20 #[.val (.long f0), .second, .val (.int c1), .val (.int w2), .val (.long fn), .second, .val (.int cr), .unset, .unset, .unset, .unset, .unset] []))
  refine OGo.step (fun uK kK => XS.iloadN X0.here hx rfl (hb hby at_20) rfl kK) ?_
  show OGo p e below _ (s₁.setTop (mkF m 21 #[.val (.long f0), .second, .val (.int c1), .val (.int w2), .val (.long fn), .second, .val (.int cr), .unset, .unset, .unset, .unset, .unset] [(.int w2)]))
  refine OGo.step (fun uK kK => XS.bipush X0.here hx rfl (hb hby at_21) kK) ?_
  show OGo p e below _ (s₁.setTop (mkF m 23 #[.val (.long f0), .second, .val (.int c1), .val (.int w2), .val (.long fn), .second, .val (.int cr), .unset, .unset, .unset, .unset, .unset] [(.int (7 : Int32)), (.int w2)]))
  refine OGo.step (fun uK kK => XS.iand X0.here hx rfl (hb hby at_23) rfl kK) ?_
  show OGo p e below _ (s₁.setTop (mkF m 24 #[.val (.long f0), .second, .val (.int c1), .val (.int w2), .val (.long fn), .second, .val (.int cr), .unset, .unset, .unset, .unset, .unset] [(.int (w2 &&& (7 : Int32)))]))
  obtain ⟨wt, ev_wt⟩ : ∃ z : Int32, z = (w2 &&& (7 : Int32)) := ⟨_, rfl⟩
  rw [← ev_wt]
  show OGo p e below _ (s₁.setTop (mkF m 24 #[.val (.long f0), .second, .val (.int c1), .val (.int w2), .val (.long fn), .second, .val (.int cr), .unset, .unset, .unset, .unset, .unset] [(.int wt)]))
  refine OGo.step (fun uK kK => XS.istore X0.here hx rfl (hb hby at_24) rfl (l' := #[.val (.long f0), .second, .val (.int c1), .val (.int w2), .val (.long fn), .second, .val (.int cr), .val (.int wt), .unset, .unset, .unset, .unset]) rfl kK) ?_
  show OGo p e below _ (s₁.setTop (mkF m 26 #[.val (.long f0), .second, .val (.int c1), .val (.int w2), .val (.long fn), .second, .val (.int cr), .val (.int wt), .unset, .unset, .unset, .unset] []))
  refine OGo.step (fun uK kK => XS.lload X0.here hx rfl (hb hby at_26) rfl kK) ?_
  show OGo p e below _ (s₁.setTop (mkF m 28 #[.val (.long f0), .second, .val (.int c1), .val (.int w2), .val (.long fn), .second, .val (.int cr), .val (.int wt), .unset, .unset, .unset, .unset] [(.long fn)]))
  refine OGo.step (fun uK kK => XS.iload X0.here hx rfl (hb hby at_28) rfl kK) ?_
  show OGo p e below _ (s₁.setTop (mkF m 30 #[.val (.long f0), .second, .val (.int c1), .val (.int w2), .val (.long fn), .second, .val (.int cr), .val (.int wt), .unset, .unset, .unset, .unset] [(.int cr), (.long fn)]))
  refine OGo.step (fun uK kK => XS.iload X0.here hx rfl (hb hby at_30) rfl kK) ?_
  show OGo p e below _ (s₁.setTop (mkF m 32 #[.val (.long f0), .second, .val (.int c1), .val (.int w2), .val (.long fn), .second, .val (.int cr), .val (.int wt), .unset, .unset, .unset, .unset] [(.int wt), (.int cr), (.long fn)]))
  obtain ⟨_, _, ⟨T2, Lq2, kq_2, nq_2⟩, -, X2, ⟨Lc2, hQ2, lq2, yq2, zq2⟩, st2⟩ := Jvm.LawKit.callS X0 hx (y := (⟨"com/example/keelform/keelform/EntryKey", "of", "(JZI)J"⟩ : MethodName)) hown (mvT hZ (hw _ (List.mem_of_getElem? (i := 1) rfl))) (mvT hZ (hw _ (List.mem_of_getElem? (i := 2) rfl))) (mvT hZ (hw _ (List.mem_of_getElem? (i := 3) rfl))) (mvT hZ (hw _ (List.mem_of_getElem? (i := 4) rfl))) (by decide) (backOf (W := 0) (rm1 l Z a0 hw [] fn cr wt  h0 n0 Z0 ) hZ (hw _ (List.mem_of_getElem? (i := 4) rfl)) (hw _ (List.mem_of_getElem? (i := 3) rfl)) (by decide) (by decide)) (g := (mkF m 32 #[.val (.long f0), .second, .val (.int c1), .val (.int w2), .val (.long fn), .second, .val (.int cr), .val (.int wt), .unset, .unset, .unset, .unset] [(.int wt), (.int cr), (.long fn)])) rfl (by rw [hml]; rfl) (argsL := [(.long fn), (.int cr), (.int wt)]) (rest := []) (lenOf pd0_0 rfl) rfl (by show 2 * 0 + _ ≤ _; exact Nat.le_of_eq rfl) (hb hby at_32) (fun _ _ => ⟨rfl, e0, (by decide : 0 + 0 ≤ _), (by decide : 0 + 0 ≤ _)⟩)
  dsimp only [Pt.U, Pt.locs, Pt.cells, Pt.slots] at X2 lq2 yq2 zq2 st2 hQ2
  subst lq2 yq2 zq2
  obtain ⟨rfl, Nq2, e2⟩ := hQ2
  have N2 := Fr.app N0 Nq2
  refine OGo.step (fun uK kK => st2 uK kK) ?_
  show OGo p e below _ (T2.setTop (mkF m 35 #[.val (.long f0), .second, .val (.int c1), .val (.int w2), .val (.long fn), .second, .val (.int cr), .val (.int wt), .unset, .unset, .unset, .unset] [(.long (((fn <<< ((4 : Int32) &&& 0x3f).toInt64) ||| (if cr = (0 : Int32) then (0 : Int64) else (8 : Int64))) ||| (wt.toInt64)))]))
  obtain ⟨key, ev_key⟩ : ∃ z : Int64, z = (((fn <<< ((4 : Int32) &&& 0x3f).toInt64) ||| (if cr = (0 : Int32) then (0 : Int64) else (8 : Int64))) ||| (wt.toInt64)) := ⟨_, rfl⟩
  rw [← ev_key]
  show OGo p e below _ (T2.setTop (mkF m 35 #[.val (.long f0), .second, .val (.int c1), .val (.int w2), .val (.long fn), .second, .val (.int cr), .val (.int wt), .unset, .unset, .unset, .unset] [(.long key)]))
  refine OGo.step (fun uK kK => XS.lstore X2.here hx rfl (hb hby at_35) rfl (l' := #[.val (.long f0), .second, .val (.int c1), .val (.int w2), .val (.long fn), .second, .val (.int cr), .val (.int wt), .val (.long key), .second, .unset, .unset]) rfl kK) ?_
  show OGo p e below _ (T2.setTop (mkF m 37 #[.val (.long f0), .second, .val (.int c1), .val (.int w2), .val (.long fn), .second, .val (.int cr), .val (.int wt), .val (.long key), .second, .unset, .unset] []))
  refine OGo.step (fun uK kK => XS.lload X2.here hx rfl (hb hby at_37) rfl kK) ?_
  show OGo p e below _ (T2.setTop (mkF m 39 #[.val (.long f0), .second, .val (.int c1), .val (.int w2), .val (.long fn), .second, .val (.int cr), .val (.int wt), .val (.long key), .second, .unset, .unset] [(.long fn)]))
  refine OGo.step (fun uK kK => X2.ldc2J hx hown (mvT hZ (hw _ (List.mem_of_getElem? (i := 5) rfl))) rfl (hb hby at_39) kK) ?_
  show OGo p e below _ (T2.setTop (mkF m 42 #[.val (.long f0), .second, .val (.int c1), .val (.int w2), .val (.long fn), .second, .val (.int cr), .val (.int wt), .val (.long key), .second, .unset, .unset] [(.long (16 : Int64)), (.long fn)]))
  refine OGo.step (fun uK kK => XS.lmul X2.here hx rfl (hb hby at_42) rfl kK) ?_
  show OGo p e below _ (T2.setTop (mkF m 43 #[.val (.long f0), .second, .val (.int c1), .val (.int w2), .val (.long fn), .second, .val (.int cr), .val (.int wt), .val (.long key), .second, .unset, .unset] [(.long (fn * (16 : Int64)))]))
  refine OGo.step (fun uK kK => XS.iload X2.here hx rfl (hb hby at_43) rfl kK) ?_
  show OGo p e below _ (T2.setTop (mkF m 45 #[.val (.long f0), .second, .val (.int c1), .val (.int w2), .val (.long fn), .second, .val (.int cr), .val (.int wt), .val (.long key), .second, .unset, .unset] [(.int cr), (.long (fn * (16 : Int64)))]))
  refine OGo.step (t' := T2.setTop (mkF m 55 #[.val (.long f0), .second, .val (.int c1), .val (.int w2), .val (.long fn), .second, .val (.int cr), .val (.int wt), .val (.long key), .second, .unset, .unset] [(.long (if cr = (0 : Int32) then (0 : Int64) else (8 : Int64))), (.long (fn * (16 : Int64)))])) (fun uK kK => ?_) ?_
  · show Steps p.tables e below (T2.setTop (mkF m 45 #[.val (.long f0), .second, .val (.int c1), .val (.int w2), .val (.long fn), .second, .val (.int cr), .val (.int wt), .val (.long key), .second, .unset, .unset] [(.int cr), (.long (fn * (16 : Int64)))])) _
    by_cases hm45_3 : cr = (0 : Int32)
    · try rw [if_pos hm45_3] at kK
      refine XS.ifYes X2.here hx rfl (pc0 := 45) (pc' := 54) rfl (hb hby at_45) rfl ((if0 _ _).trans (teq hm45_3).1) (by decide) (by decide) ?_
      refine XS.lconst X2.here hx rfl (hb hby at_54) ?_
      show Steps p.tables e below (T2.setTop (mkF m 55 #[.val (.long f0), .second, .val (.int c1), .val (.int w2), .val (.long fn), .second, .val (.int cr), .val (.int wt), .val (.long key), .second, .unset, .unset] [(.long (0 : Int64)), (.long (fn * (16 : Int64)))])) _
      exact kK
    · try rw [if_neg hm45_3] at kK
      refine XS.ifNo X2.here hx rfl (hb hby at_45) rfl ((if0 _ _).trans (feq hm45_3).1) ?_
      refine X2.ldc2J hx hown (mvT hZ (hw _ (List.mem_of_getElem? (i := 17) rfl))) rfl (hb hby at_48) ?_
      show Steps p.tables e below (T2.setTop (mkF m 51 #[.val (.long f0), .second, .val (.int c1), .val (.int w2), .val (.long fn), .second, .val (.int cr), .val (.int wt), .val (.long key), .second, .unset, .unset] [(.long (8 : Int64)), (.long (fn * (16 : Int64)))])) _
      refine XS.goto X2.here hx rfl (pc0 := 51) (pc' := 55) rfl (hb hby at_51) (by decide) (by decide) ?_
      show Steps p.tables e below (T2.setTop (mkF m 55 #[.val (.long f0), .second, .val (.int c1), .val (.int w2), .val (.long fn), .second, .val (.int cr), .val (.int wt), .val (.long key), .second, .unset, .unset] [(.long (8 : Int64)), (.long (fn * (16 : Int64)))])) _
      exact kK
  show OGo p e below _ (T2.setTop (mkF m 55 #[.val (.long f0), .second, .val (.int c1), .val (.int w2), .val (.long fn), .second, .val (.int cr), .val (.int wt), .val (.long key), .second, .unset, .unset] [(.long (if cr = (0 : Int32) then (0 : Int64) else (8 : Int64))), (.long (fn * (16 : Int64)))]))
  refine OGo.step (fun uK kK => XS.ladd X2.here hx rfl (hb hby at_55) rfl kK) ?_
  show OGo p e below _ (T2.setTop (mkF m 56 #[.val (.long f0), .second, .val (.int c1), .val (.int w2), .val (.long fn), .second, .val (.int cr), .val (.int wt), .val (.long key), .second, .unset, .unset] [(.long ((fn * (16 : Int64)) + (if cr = (0 : Int32) then (0 : Int64) else (8 : Int64))))]))
  refine OGo.step (fun uK kK => XS.iload X2.here hx rfl (hb hby at_56) rfl kK) ?_
  show OGo p e below _ (T2.setTop (mkF m 58 #[.val (.long f0), .second, .val (.int c1), .val (.int w2), .val (.long fn), .second, .val (.int cr), .val (.int wt), .val (.long key), .second, .unset, .unset] [(.int wt), (.long ((fn * (16 : Int64)) + (if cr = (0 : Int32) then (0 : Int64) else (8 : Int64))))]))
  refine OGo.step (fun uK kK => XS.i2l X2.here hx rfl (hb hby at_58) rfl kK) ?_
  show OGo p e below _ (T2.setTop (mkF m 59 #[.val (.long f0), .second, .val (.int c1), .val (.int w2), .val (.long fn), .second, .val (.int cr), .val (.int wt), .val (.long key), .second, .unset, .unset] [(.long (wt.toInt64)), (.long ((fn * (16 : Int64)) + (if cr = (0 : Int32) then (0 : Int64) else (8 : Int64))))]))
  refine OGo.step (fun uK kK => XS.ladd X2.here hx rfl (hb hby at_59) rfl kK) ?_
  show OGo p e below _ (T2.setTop (mkF m 60 #[.val (.long f0), .second, .val (.int c1), .val (.int w2), .val (.long fn), .second, .val (.int cr), .val (.int wt), .val (.long key), .second, .unset, .unset] [(.long (((fn * (16 : Int64)) + (if cr = (0 : Int32) then (0 : Int64) else (8 : Int64))) + (wt.toInt64)))]))
  obtain ⟨ex, ev_ex⟩ : ∃ z : Int64, z = (((fn * (16 : Int64)) + (if cr = (0 : Int32) then (0 : Int64) else (8 : Int64))) + (wt.toInt64)) := ⟨_, rfl⟩
  rw [← ev_ex]
  show OGo p e below _ (T2.setTop (mkF m 60 #[.val (.long f0), .second, .val (.int c1), .val (.int w2), .val (.long fn), .second, .val (.int cr), .val (.int wt), .val (.long key), .second, .unset, .unset] [(.long ex)]))
  refine OGo.step (fun uK kK => XS.lstore X2.here hx rfl (hb hby at_60) rfl (l' := #[.val (.long f0), .second, .val (.int c1), .val (.int w2), .val (.long fn), .second, .val (.int cr), .val (.int wt), .val (.long key), .second, .val (.long ex), .second]) rfl kK) ?_
  show OGo p e below _ (T2.setTop (mkF m 62 #[.val (.long f0), .second, .val (.int c1), .val (.int w2), .val (.long fn), .second, .val (.int cr), .val (.int wt), .val (.long key), .second, .val (.long ex), .second] []))
  have hk := own_key f0 c1 w2 fn key ex cr wt ev_fn ev_cr ev_wt ev_key ev_ex
  refine OGo.step (fun uK kK => XS.lload X2.here hx rfl (hb hby at_62) rfl kK) ?_
  show OGo p e below _ (T2.setTop (mkF m 64 #[.val (.long f0), .second, .val (.int c1), .val (.int w2), .val (.long fn), .second, .val (.int cr), .val (.int wt), .val (.long key), .second, .val (.long ex), .second] [(.long key)]))
  refine OGo.step (fun uK kK => XS.lload X2.here hx rfl (hb hby at_64) rfl kK) ?_
  show OGo p e below _ (T2.setTop (mkF m 66 #[.val (.long f0), .second, .val (.int c1), .val (.int w2), .val (.long fn), .second, .val (.int cr), .val (.int wt), .val (.long key), .second, .val (.long ex), .second] [(.long ex), (.long key)]))
  refine OGo.step (fun uK kK => XS.lcmp X2.here hx rfl (hb hby at_66) rfl kK) ?_
  show OGo p e below _ (T2.setTop (mkF m 67 #[.val (.long f0), .second, .val (.int c1), .val (.int w2), .val (.long fn), .second, .val (.int cr), .val (.int wt), .val (.long key), .second, .val (.long ex), .second] [(.int (lcmpW key ex))]))
  have hc67 : key = ex := hk.1
  refine OGo.step (fun uK kK => XS.ifNo X2.here hx rfl (hb hby at_67) rfl ((if0 _ _).trans (teq ((lw_eq _ _).mpr hc67)).2) kK) ?_
  show OGo p e below _ (T2.setTop (mkF m 70 #[.val (.long f0), .second, .val (.int c1), .val (.int w2), .val (.long fn), .second, .val (.int cr), .val (.int wt), .val (.long key), .second, .val (.long ex), .second] []))
  refine OGo.step (fun uK kK => XS.lload X2.here hx rfl (hb hby at_70) rfl kK) ?_
  show OGo p e below _ (T2.setTop (mkF m 72 #[.val (.long f0), .second, .val (.int c1), .val (.int w2), .val (.long fn), .second, .val (.int cr), .val (.int wt), .val (.long key), .second, .val (.long ex), .second] [(.long key)]))
  obtain ⟨_, _, ⟨T4, Lq4, kq_4, nq_4⟩, -, X4, ⟨Lc4, hQ4, lq4, yq4, zq4⟩, st4⟩ := Jvm.LawKit.callS X2 hx (y := (⟨"com/example/keelform/keelform/EntryKey", "fieldNumber", "(J)J"⟩ : MethodName)) hown (mvT hZ (hw _ (List.mem_of_getElem? (i := 6) rfl))) (mvT hZ (hw _ (List.mem_of_getElem? (i := 7) rfl))) (mvT hZ (hw _ (List.mem_of_getElem? (i := 3) rfl))) (mvT hZ (hw _ (List.mem_of_getElem? (i := 8) rfl))) (by decide) (backOf (W := 0) (rm2 l Z a0 hw [] key  h0 n0 Z0 ) hZ (hw _ (List.mem_of_getElem? (i := 8) rfl)) (hw _ (List.mem_of_getElem? (i := 3) rfl)) (by decide) (by decide)) (g := (mkF m 72 #[.val (.long f0), .second, .val (.int c1), .val (.int w2), .val (.long fn), .second, .val (.int cr), .val (.int wt), .val (.long key), .second, .val (.long ex), .second] [(.long key)])) rfl (by rw [hml]; rfl) (argsL := [(.long key)]) (rest := []) (lenOf pd0_1 rfl) rfl (by show 2 * 0 + _ ≤ _; exact Nat.le_of_eq rfl) (hb hby at_72) (fun _ _ => ⟨rfl, e2, (by decide : 0 + 0 ≤ _), (by decide : 0 + 0 ≤ _)⟩)
  dsimp only [Pt.U, Pt.locs, Pt.cells, Pt.slots] at X4 lq4 yq4 zq4 st4 hQ4
  subst lq4 yq4 zq4
  obtain ⟨rfl, Nq4, e4⟩ := hQ4
  have N4 := Fr.app N2 Nq4
  refine OGo.step (fun uK kK => st4 uK kK) ?_
  show OGo p e below _ (T4.setTop (mkF m 75 #[.val (.long f0), .second, .val (.int c1), .val (.int w2), .val (.long fn), .second, .val (.int cr), .val (.int wt), .val (.long key), .second, .val (.long ex), .second] [(.long ((key.toUInt64 >>> ((4 : Int32) &&& 0x3f).toInt64.toUInt64).toInt64))]))
  refine OGo.step (fun uK kK => XS.lload X4.here hx rfl (hb hby at_75) rfl kK) ?_
  show OGo p e below _ (T4.setTop (mkF m 77 #[.val (.long f0), .second, .val (.int c1), .val (.int w2), .val (.long fn), .second, .val (.int cr), .val (.int wt), .val (.long key), .second, .val (.long ex), .second] [(.long fn), (.long ((key.toUInt64 >>> ((4 : Int32) &&& 0x3f).toInt64.toUInt64).toInt64))]))
  refine OGo.step (fun uK kK => XS.lcmp X4.here hx rfl (hb hby at_77) rfl kK) ?_
  show OGo p e below _ (T4.setTop (mkF m 78 #[.val (.long f0), .second, .val (.int c1), .val (.int w2), .val (.long fn), .second, .val (.int cr), .val (.int wt), .val (.long key), .second, .val (.long ex), .second] [(.int (lcmpW ((key.toUInt64 >>> ((4 : Int32) &&& 0x3f).toInt64.toUInt64).toInt64) fn))]))
  have hc78 : ((key.toUInt64 >>> ((4 : Int32) &&& 0x3f).toInt64.toUInt64).toInt64) = fn := hk.2.1
  refine OGo.step (fun uK kK => XS.ifNo X4.here hx rfl (hb hby at_78) rfl ((if0 _ _).trans (teq ((lw_eq _ _).mpr hc78)).2) kK) ?_
  show OGo p e below _ (T4.setTop (mkF m 81 #[.val (.long f0), .second, .val (.int c1), .val (.int w2), .val (.long fn), .second, .val (.int cr), .val (.int wt), .val (.long key), .second, .val (.long ex), .second] []))
  refine OGo.step (fun uK kK => XS.lload X4.here hx rfl (hb hby at_81) rfl kK) ?_
  show OGo p e below _ (T4.setTop (mkF m 83 #[.val (.long f0), .second, .val (.int c1), .val (.int w2), .val (.long fn), .second, .val (.int cr), .val (.int wt), .val (.long key), .second, .val (.long ex), .second] [(.long key)]))
  obtain ⟨_, _, ⟨T5, Lq5, kq_5, nq_5⟩, -, X5, ⟨Lc5, hQ5, lq5, yq5, zq5⟩, st5⟩ := Jvm.LawKit.callS X4 hx (y := (⟨"com/example/keelform/keelform/EntryKey", "isCritical", "(J)Z"⟩ : MethodName)) hown (mvT hZ (hw _ (List.mem_of_getElem? (i := 9) rfl))) (mvT hZ (hw _ (List.mem_of_getElem? (i := 10) rfl))) (mvT hZ (hw _ (List.mem_of_getElem? (i := 3) rfl))) (mvT hZ (hw _ (List.mem_of_getElem? (i := 11) rfl))) (by decide) (backOf (W := 0) (rm3 l Z a0 hw [] key  h0 n0 Z0 ) hZ (hw _ (List.mem_of_getElem? (i := 11) rfl)) (hw _ (List.mem_of_getElem? (i := 3) rfl)) (by decide) (by decide)) (g := (mkF m 83 #[.val (.long f0), .second, .val (.int c1), .val (.int w2), .val (.long fn), .second, .val (.int cr), .val (.int wt), .val (.long key), .second, .val (.long ex), .second] [(.long key)])) rfl (by rw [hml]; rfl) (argsL := [(.long key)]) (rest := []) (lenOf pd0_2 rfl) rfl (by show 2 * 0 + _ ≤ _; exact Nat.le_of_eq rfl) (hb hby at_83) (fun _ _ => ⟨rfl, e4, (by decide : 0 + 0 ≤ _), (by decide : 0 + 0 ≤ _)⟩)
  dsimp only [Pt.U, Pt.locs, Pt.cells, Pt.slots] at X5 lq5 yq5 zq5 st5 hQ5
  subst lq5 yq5 zq5
  obtain ⟨rfl, Nq5, e5⟩ := hQ5
  have N5 := Fr.app N4 Nq5
  refine OGo.step (fun uK kK => st5 uK kK) ?_
  show OGo p e below _ (T5.setTop (mkF m 86 #[.val (.long f0), .second, .val (.int c1), .val (.int w2), .val (.long fn), .second, .val (.int cr), .val (.int wt), .val (.long key), .second, .val (.long ex), .second] [(.int (nar .boolean (if (key &&& (8 : Int64)) = (0 : Int64) then (0 : Int32) else (1 : Int32))))]))
  refine OGo.step (fun uK kK => XS.iload X5.here hx rfl (hb hby at_86) rfl kK) ?_
  show OGo p e below _ (T5.setTop (mkF m 88 #[.val (.long f0), .second, .val (.int c1), .val (.int w2), .val (.long fn), .second, .val (.int cr), .val (.int wt), .val (.long key), .second, .val (.long ex), .second] [(.int cr), (.int (nar .boolean (if (key &&& (8 : Int64)) = (0 : Int64) then (0 : Int32) else (1 : Int32))))]))
  have hc88 : (nar .boolean (if (key &&& (8 : Int64)) = (0 : Int64) then (0 : Int32) else (1 : Int32))) = cr := hk.2.2.1
  refine OGo.step (fun uK kK => XS.icmpNo X5.here hx rfl (hb hby at_88) rfl (teq hc88).2 kK) ?_
  show OGo p e below _ (T5.setTop (mkF m 91 #[.val (.long f0), .second, .val (.int c1), .val (.int w2), .val (.long fn), .second, .val (.int cr), .val (.int wt), .val (.long key), .second, .val (.long ex), .second] []))
  refine OGo.step (fun uK kK => XS.lload X5.here hx rfl (hb hby at_91) rfl kK) ?_
  show OGo p e below _ (T5.setTop (mkF m 93 #[.val (.long f0), .second, .val (.int c1), .val (.int w2), .val (.long fn), .second, .val (.int cr), .val (.int wt), .val (.long key), .second, .val (.long ex), .second] [(.long key)]))
  obtain ⟨_, _, ⟨T6, Lq6, kq_6, nq_6⟩, -, X6, ⟨Lc6, hQ6, lq6, yq6, zq6⟩, st6⟩ := Jvm.LawKit.callS X5 hx (y := (⟨"com/example/keelform/keelform/EntryKey", "wireType", "(J)I"⟩ : MethodName)) hown (mvT hZ (hw _ (List.mem_of_getElem? (i := 13) rfl))) (mvT hZ (hw _ (List.mem_of_getElem? (i := 14) rfl))) (mvT hZ (hw _ (List.mem_of_getElem? (i := 3) rfl))) (mvT hZ (hw _ (List.mem_of_getElem? (i := 15) rfl))) (by decide) (backOf (W := 0) (rm4 l Z a0 hw [] key  h0 n0 Z0 ) hZ (hw _ (List.mem_of_getElem? (i := 15) rfl)) (hw _ (List.mem_of_getElem? (i := 3) rfl)) (by decide) (by decide)) (g := (mkF m 93 #[.val (.long f0), .second, .val (.int c1), .val (.int w2), .val (.long fn), .second, .val (.int cr), .val (.int wt), .val (.long key), .second, .val (.long ex), .second] [(.long key)])) rfl (by rw [hml]; rfl) (argsL := [(.long key)]) (rest := []) (lenOf pd0_3 rfl) rfl (by show 2 * 0 + _ ≤ _; exact Nat.le_of_eq rfl) (hb hby at_93) (fun _ _ => ⟨rfl, e5, (by decide : 0 + 0 ≤ _), (by decide : 0 + 0 ≤ _)⟩)
  dsimp only [Pt.U, Pt.locs, Pt.cells, Pt.slots] at X6 lq6 yq6 zq6 st6 hQ6
  subst lq6 yq6 zq6
  obtain ⟨rfl, Nq6, e6⟩ := hQ6
  have N6 := Fr.app N5 Nq6
  refine OGo.step (fun uK kK => st6 uK kK) ?_
  show OGo p e below _ (T6.setTop (mkF m 96 #[.val (.long f0), .second, .val (.int c1), .val (.int w2), .val (.long fn), .second, .val (.int cr), .val (.int wt), .val (.long key), .second, .val (.long ex), .second] [(.int ((key &&& (7 : Int64)).toInt32))]))
  refine OGo.step (fun uK kK => XS.iload X6.here hx rfl (hb hby at_96) rfl kK) ?_
  show OGo p e below _ (T6.setTop (mkF m 98 #[.val (.long f0), .second, .val (.int c1), .val (.int w2), .val (.long fn), .second, .val (.int cr), .val (.int wt), .val (.long key), .second, .val (.long ex), .second] [(.int wt), (.int ((key &&& (7 : Int64)).toInt32))]))
  have hc98 : ((key &&& (7 : Int64)).toInt32) = wt := hk.2.2.2
  refine OGo.step (fun uK kK => XS.icmpNo X6.here hx rfl (hb hby at_98) rfl (teq hc98).2 kK) ?_
  show OGo p e below _ (T6.setTop (mkF m 101 #[.val (.long f0), .second, .val (.int c1), .val (.int w2), .val (.long fn), .second, .val (.int cr), .val (.int wt), .val (.long key), .second, .val (.long ex), .second] []))
  refine OGo.step (fun uK kK => XS.iconst X6.here hx rfl (hb hby at_101) kK) ?_
  show OGo p e below _ (T6.setTop (mkF m 102 #[.val (.long f0), .second, .val (.int c1), .val (.int w2), .val (.long fn), .second, .val (.int cr), .val (.int wt), .val (.long key), .second, .val (.long ex), .second] [(.int (1 : Int32))]))
  refine OGo.step (fun uK kK => XS.goto X6.here hx rfl (pc0 := 102) (pc' := 106) rfl (hb hby at_102) (by decide) (by decide) kK) ?_
  show OGo p e below _ (T6.setTop (mkF m 106 #[.val (.long f0), .second, .val (.int c1), .val (.int w2), .val (.long fn), .second, .val (.int cr), .val (.int wt), .val (.long key), .second, .val (.long ex), .second] [(.int (1 : Int32))]))
  exact OGo.retN X6 hx Bd.notSynchronized (t := .boolean) Bd.returns (by simp) (hb hby at_106) (by decide) (by decide) (by show Q0 Z f0 c1 w2 h0 n0 _ T6.heap _; rw [e6]; exact ⟨rfl, N6⟩)
set_option maxRecDepth 65536 in
set_option maxHeartbeats 40000000 in
theorem comes_1 {Post : Tables → Env → Array Value → State → Outcome → State → Prop} (hpost : ∀ tb e args s v u, (limb_1_1.after args s (.returned v) u = true ∧ limb_1_2.after args s (.returned v) u = true ∧ True) → FrameEnd s (.returned v) u (Jvm.fieldLocs frame_1_writes args s ++ Jvm.arrayLocs frame_1_arrays args s ++ Jvm.staticLocs frame_1_statics s) 0 0 → Post tb e args s (.returned v) u) :
    ArmFor flags0 classFile x code maxLocals ret World_1 tables_1 room_1 Calls_1 rest_1 Pre_1 Post := by
  intro l hfl _ _ p e ha hc hk s m args below hf hA hF happ hP
  obtain ⟨hcalls, hrest, hpre⟩ := hP
  obtain ⟨-, -, -, hnamed, -, -, -, hat⟩ := (Spec.applies_iff hf).mp happ
  obtain ⟨hg, hn⟩ := and_e (Cond.before_iff.mp (show (Jvm.Cond.and given_1 narrow_1).before args s = true from hpre))
  obtain ⟨hcount, hg0⟩ := and_e hg
  obtain ⟨ga0, hg1⟩ := and_e hg0
  obtain ⟨ga1, hg2⟩ := and_e hg1
  have ga2 := hg2
  obtain ⟨w0, w1, w2, rfl⟩ : ∃ w0 w1 w2 : Value, args = #[w0, w1, w2] := by
    have hs : args.size = 3 := by simpa [Cond.value, given_1] using hcount
    obtain ⟨L⟩ := args
    match L, hs with
    | [w0, w1, w2], _ => exact ⟨w0, w1, w2, rfl⟩
  have hw := fun d (hd : d ∈ tables_1) => atoms_spec (ws := Jvm.Cond.code x code maxLocals ret :: tables_1) hat d (List.mem_cons_of_mem _ hd)
  have hfit : Fit s := fun {y c} hc i hi => by
    obtain ⟨ha, rfl⟩ := Array.getElem?_eq_some_iff.mp hc
    have q := List.all_eq_true.mp ((Array.all_eq_true_iff_forall_mem.mp hF) _ (Array.getElem_mem ha)) i (List.mem_range.mpr hi)
    simpa [Array.getElem?_eq_getElem hi] using q
  obtain ⟨i0, ei0⟩ := isL_v ga0
  obtain rfl : w0 = (.long i0) := Option.some.inj ei0
  obtain ⟨i1, ei1⟩ := is_v ga1
  obtain rfl : w1 = (.int i1) := Option.some.inj ei1
  obtain ⟨i2, ei2⟩ := is_v ga2
  obtain rfl : w2 = (.int i2) := Option.some.inj ei2
  obtain ⟨n, o, h1, h2, h3, _, L, rfl, ⟨rfl, N⟩, hq⟩ := rm0 l s _ hw tables_1 i0 i1 i2  s.heap s.heap.size (Nat.le_refl _)  p e ha hc hk s m _ below hf ((Spec.applies_iff_loose hf).mp happ).1 ⟨rfl, State.Warmed39.refl s, rfl⟩ trivial
  refine ⟨n, _, h1, h2, h3, hpost _ _ _ _ _ _ ⟨Cond.after_iff.mpr rfl, Cond.after_iff.mpr (eq_i res_at (Term.int_eval (1)) rfl), trivial⟩ ⟨hq.1, hq.2.1, (hq.2.2.sift fun y hy => Or.inr (N y hy)).mono (by decide) (by decide)⟩⟩
theorem main_1_1 : Claimed_1_1 := comes_1 fun _ _ _ _ _ _ h hF => ⟨h.1, hF⟩
theorem main_1_2 : Claimed_1_2 := comes_1 fun _ _ _ _ _ _ h hF => ⟨h.2.1, hF⟩
end Jvm.Pilot.@@N@@
namespace Jvm.Pilot.@@N@@
open Jvm Jvm.ClassFile Sem Op Lib Jvm.Free Jvm.Stand Jvm.Pilot.@@N@@.Jvm.D
/-! MADE BY PROGRAM (witnessworld.py) out of the Statement's table words and the real class files: 9 classes; the members and pool entries that the words name. The judged class is class 1, her method 1. -/
namespace start1
open Jvm.ClassFile
def u (s : String) : CpInfo := .utf8 (stringToUtf16 s)
/-- a pool by its gaps: so many unusable entries, then the entry; so many at the end -/
def gap : Nat → List CpInfo → List CpInfo
  | 0, r => r
  | n + 1, r => .unusable :: gap n r
def poolList (es : List (Nat × CpInfo)) (last : Nat) : List CpInfo := es.foldr (fun e r => gap e.1 (e.2 :: r)) (gap last [])
def pool (es : List (Nat × CpInfo)) (last : Nat) : Array CpInfo := ⟨poolList es last⟩
def fileOf (pool : Array CpInfo) (this : Nat) (attrs : Array Attribute := #[]) (ms : Array MethodInfo := #[]) (fl : Nat := 33) (sup : Nat := 0) (ifs : Array Nat := #[]) (fds : Array FieldInfo := #[]) : ClassFile where
  minorVersion := 0
  majorVersion := 65
  constantPool := pool
  accessFlags := fl
  thisClass := this
  superClass := sup
  interfaces := ifs
  fields := fds
  methods := ms
  attributes := attrs
def plain (name : String) (sup : Option ClassId) : Class where
  name := name
  kind := .ordinary
  loader := none
  accessFlags := 33
  super := sup
  interfaces := #[]
  cf := none
  fields := #[]
  methods := #[]
  instanceTypes := #[]
  staticTypes := #[]
  resolved := #[]
  callSites := []
  init := .initialized
  statics := none
  mirror := none

def pool0 : Array CpInfo := pool [(5, u "<init>"), (0, u "()V"), (1, .class_ 10), (1, u "java/lang/Object")] 113

def k0m0 : Method := { name := "<init>", desc := "()V", sig := { parameters := [], returnType := none }, accessFlags := 1, code := none }
/-- java/lang/Object -/
def k0 : Class := { plain "java/lang/Object" none with
  accessFlags := 33
  interfaces := #[]
  cf := some (fileOf pool0 8 #[] #[{ accessFlags := 1, nameIndex := 5, descriptorIndex := 6, attributes := #[] }] 33 0 #[] #[])
  fields := #[]
  methods := #[k0m0]
  instanceTypes := #[]
  staticTypes := #[]
  resolved := Array.replicate 124 none
  statics := none }

def pool1 : Array CpInfo := pool [(2, .class_ 4), (1, u "java/lang/Object"), (0, u "<init>"), (0, u "()V"), (0, .long 1152921504606846975), (1, .methodref 10 11), (0, .class_ 12), (0, .nameAndType 13 14), (0, u "com/example/keelform/keelform/EntryKey"), (0, u "of"), (0, u "(JZI)J"), (0, .long 16), (1, .long 8), (1, .methodref 10 20), (0, .nameAndType 21 22), (0, u "fieldNumber"), (0, u "(J)J"), (0, .methodref 10 24), (0, .nameAndType 25 26), (0, u "isCritical"), (0, u "(J)Z"), (0, .methodref 10 28), (0, .nameAndType 29 30), (0, u "wireType"), (0, u "(J)I"), (0, .class_ 32), (0, u "com/example/keelform/keelform/EntryKeyOfPinLaw"), (2, u "law"), (0, u "(JII)Z")] 3

def k1m0 : Method := { name := "<init>", desc := "()V", sig := { parameters := [], returnType := none }, accessFlags := 2, code := none }
def k1c1 : Code := { maxStack := 4, maxLocals := 12, code := code, exceptionTable := #[], attributes := #[] }
def k1m1 : Method := { name := "law", desc := "(JII)Z", sig := { parameters := [.long, .int, .int], returnType := some .boolean }, accessFlags := 9, code := some k1c1 }
/-- com/example/keelform/keelform/EntryKeyOfPinLaw -/
def k1 : Class := { plain "com/example/keelform/keelform/EntryKeyOfPinLaw" (some 0) with
  accessFlags := 49
  interfaces := #[]
  cf := some (fileOf pool1 31 #[] #[{ accessFlags := 2, nameIndex := 5, descriptorIndex := 6, attributes := #[] }, { accessFlags := 9, nameIndex := 35, descriptorIndex := 36, attributes := #[] }] 49 2 #[] #[])
  fields := #[]
  methods := #[k1m0, k1m1]
  instanceTypes := #[]
  staticTypes := #[]
  resolved := Array.replicate 40 none
  statics := none }

def pool2 : Array CpInfo := pool [(1, .class_ 2), (0, u "com/example/keelform/keelform/EntryKey"), (1, .class_ 6), (1, u "java/lang/Object"), (0, u "<init>"), (0, u "()V"), (0, .long 8), (1, .long 7), (1, u "FIELD_NUMBER_SHIFT"), (0, u "I"), (2, u "CRITICAL_FLAG"), (0, u "J"), (0, u "WIRE_TYPE_MASK"), (0, u "MAX_FIELD_NUMBER"), (4, u "of"), (0, u "(JZI)J"), (1, u "fieldNumber"), (0, u "(J)J"), (0, u "isCritical"), (0, u "(J)Z"), (0, u "wireType"), (0, u "(J)I")] 2

def k2m0 : Method := { name := "<init>", desc := "()V", sig := { parameters := [], returnType := none }, accessFlags := 2, code := none }
def k2c1 : Code := { maxStack := 4, maxLocals := 4, code := prog_3_method_2_code, exceptionTable := #[], attributes := #[] }
def k2m1 : Method := { name := "of", desc := "(JZI)J", sig := { parameters := [.long, .boolean, .int], returnType := some .long }, accessFlags := 8, code := some k2c1 }
def k2c2 : Code := { maxStack := 3, maxLocals := 2, code := prog_3_method_3_code, exceptionTable := #[], attributes := #[] }
def k2m2 : Method := { name := "fieldNumber", desc := "(J)J", sig := { parameters := [.long], returnType := some .long }, accessFlags := 8, code := some k2c2 }
def k2c3 : Code := { maxStack := 4, maxLocals := 2, code := prog_3_method_4_code, exceptionTable := #[], attributes := #[] }
def k2m3 : Method := { name := "isCritical", desc := "(J)Z", sig := { parameters := [.long], returnType := some .boolean }, accessFlags := 8, code := some k2c3 }
def k2c4 : Code := { maxStack := 4, maxLocals := 2, code := prog_3_method_5_code, exceptionTable := #[], attributes := #[] }
def k2m4 : Method := { name := "wireType", desc := "(J)I", sig := { parameters := [.long], returnType := some .int }, accessFlags := 8, code := some k2c4 }
/-- com/example/keelform/keelform/EntryKey -/
def k2 : Class := { plain "com/example/keelform/keelform/EntryKey" (some 0) with
  accessFlags := 48
  interfaces := #[]
  cf := some (fileOf pool2 1 #[] #[{ accessFlags := 2, nameIndex := 7, descriptorIndex := 8, attributes := #[] }, { accessFlags := 8, nameIndex := 25, descriptorIndex := 26, attributes := #[] }, { accessFlags := 8, nameIndex := 28, descriptorIndex := 29, attributes := #[] }, { accessFlags := 8, nameIndex := 30, descriptorIndex := 31, attributes := #[] }, { accessFlags := 8, nameIndex := 32, descriptorIndex := 33, attributes := #[] }] 48 4 #[] #[{ accessFlags := 26, nameIndex := 13, descriptorIndex := 14, attributes := #[] }, { accessFlags := 26, nameIndex := 17, descriptorIndex := 18, attributes := #[] }, { accessFlags := 26, nameIndex := 19, descriptorIndex := 18, attributes := #[] }, { accessFlags := 24, nameIndex := 20, descriptorIndex := 18, attributes := #[] }])
  fields := #[{ name := "FIELD_NUMBER_SHIFT", type := .int, accessFlags := 26, slot := 0, constantValue := 0 }, { name := "CRITICAL_FLAG", type := .long, accessFlags := 26, slot := 1, constantValue := 0 }, { name := "WIRE_TYPE_MASK", type := .long, accessFlags := 26, slot := 2, constantValue := 0 }, { name := "MAX_FIELD_NUMBER", type := .long, accessFlags := 24, slot := 3, constantValue := 0 }]
  methods := #[k2m0, k2m1, k2m2, k2m3, k2m4]
  instanceTypes := #[]
  staticTypes := #[.int, .long, .long, .long]
  resolved := Array.replicate 36 none
  statics := none }

def pool3 : Array CpInfo := pool [(1, u "java/lang/Cloneable"), (0, .class_ 1), (0, u "java/lang/Object"), (0, .class_ 3)] 3

/-- java/lang/Cloneable -/
def k3 : Class := { plain "java/lang/Cloneable" (some 0) with
  accessFlags := 1537
  interfaces := #[]
  cf := some (fileOf pool3 2 #[] #[] 1537 4 #[] #[])
  fields := #[]
  methods := #[]
  instanceTypes := #[]
  staticTypes := #[]
  resolved := Array.replicate 8 none
  statics := none }

def pool4 : Array CpInfo := pool [(1, u "java/io/Serializable"), (0, .class_ 1), (0, u "java/lang/Object"), (0, .class_ 3)] 3

/-- java/io/Serializable -/
def k4 : Class := { plain "java/io/Serializable" (some 0) with
  accessFlags := 1537
  interfaces := #[]
  cf := some (fileOf pool4 2 #[] #[] 1537 4 #[] #[])
  fields := #[]
  methods := #[]
  instanceTypes := #[]
  staticTypes := #[]
  resolved := Array.replicate 8 none
  statics := none }

/-- the primitive byte -/
def k5 : Class := { plain "byte" none with kind := .primitive 'B', accessFlags := 0x411 }
/-- [B -/
def k6 : Class := { plain "[B" (some 0) with kind := .array 5 .byte, interfaces := #[3, 4], accessFlags := 1041 }

/-- the primitive int -/
def k7 : Class := { plain "int" none with kind := .primitive 'I', accessFlags := 0x411 }
/-- [I -/
def k8 : Class := { plain "[I" (some 0) with kind := .array 7 .int, interfaces := #[3, 4], accessFlags := 1041 }

def heap : Heap := #[]
def classes : Array Class := #[k0, k1, k2, k3, k4, k5, k6, k7, k8]
def interned : List (Array UInt16 × Addr) := []
def slotsUsed : Nat := 0
def theMethod : MethodId := ⟨1, 1⟩
def args0 : Array Value := #[.long 5, .int 1, .int 3]
def aboutOver (below : List Frame) : State where
  vm := { classes := classes, interned := interned.toArray }
  heap := heap
  slotsUsed := slotsUsed
  threads := #[{ frames := .invoking theMethod args0 :: below }]
def below0 : List Frame := [.native { method := ⟨0, 0⟩, args := #[] }]
def about1 : State := aboutOver below0
def p0 : Program := .bare "" "" ""
def e0 : Env := launch0.env 0 0 0
theorem w_frames : about1.frames = Frame.invoking theMethod args0 :: below0 := rfl
set_option maxRecDepth 65536 in
theorem w_args : argsFit about1.vm theMethod args0 = true := by decide +kernel
set_option maxRecDepth 65536 in
theorem w_heap : heapFits about1 = true := by decide +kernel
set_option maxRecDepth 65536 in
theorem w_runnable : about1.curStatus? = some .runnable := by decide +kernel
set_option maxRecDepth 65536 in
theorem w_alone : about1.alone = true := by decide +kernel
set_option maxRecDepth 65536 in
theorem w_named : about1.methodNamed? x = some theMethod := by decide +kernel
set_option maxRecDepth 65536 in
theorem w_hears : about1.hears theMethod below0 = true := by decide +kernel
set_option maxRecDepth 65536 in
theorem w_ripe : about1.ripe theMethod args0 below0 = true := by decide +kernel
theorem w_running : about1.status = .running := rfl
set_option maxRecDepth 65536 in
theorem w_room : about1.hasRoom e0.platform room_1 = true :=
  launch0.hasRoom_least _ room_1 (by decide +kernel) (by decide +kernel) (by decide +kernel) (by decide +kernel) (by decide +kernel) (by decide +kernel)
theorem allAtoms_all (ts : List Jvm.Cond) (a : Array Jvm.Value) (st : Jvm.State) : (allAtoms ts).before a st = ts.all (fun c => c.before a st) := by
  induction ts with
  | nil => rfl
  | cons c t ih =>
    show (Jvm.Cond.and c (allAtoms t)).before a st = _
    rw [Jvm.Cond.before_and, ih, List.all_cons]
def words1 : List Jvm.Cond := Jvm.Cond.code x code maxLocals ret :: tables_1
/-- a 'code' word, met by the world's own term for the bytes: nothing is compared byte by byte -/
theorem code_word {y : MethodName} {bytes : ByteArray} {mx : Nat} {rt : Option FieldType} {a : Array Value} {s : State} {m : MethodId} {meth : Method} {c : Code} (h1 : s.methodNamed? y = some m) (h2 : s.vm.method? m = some meth) (h3 : meth.code = some c) (h4 : c.code = bytes)
    (h5 : (c.maxLocals == mx && c.exceptionTable.isEmpty && decide (c.maxStack ≤ mostOperands) && decide (meth.sig.returnType = rt) && !meth.locks && decide (parseMethodDescriptor y.desc = some meth.sig)) = true) : (Jvm.Cond.code y bytes mx rt).before a s = true := by
  simp only [Bool.and_eq_true, beq_iff_eq, Bool.not_eq_true', decide_eq_true_eq] at h5
  obtain ⟨⟨⟨⟨⟨g1, g2⟩, g3⟩, g4⟩, g5⟩, g6⟩ := h5
  simp [Cond.before, Cond.holds, Cond.value, h1, h2, h3, h4, g1, g2, g3, g4, g5, g6]
def isCode : Jvm.Cond → Bool
  | .code _ _ _ _ => true
  | _ => false
theorem all_split {L : List Jvm.Cond} {P : Jvm.Cond → Bool} (h1 : L.all (fun c => isCode c || P c) = true) (h2 : ∀ c ∈ L.filter isCode, P c = true) : L.all P = true := by
  refine List.all_eq_true.mpr fun c hc => ?_
  have h := List.all_eq_true.mp h1 c hc
  rcases Bool.eq_false_or_eq_true (isCode c) with hi | hi
  · exact h2 c (List.mem_filter.mpr ⟨hc, hi⟩)
  · simpa [hi] using h
set_option maxRecDepth 65536 in
theorem w_c0 : (Jvm.Cond.code x code maxLocals ret).before args0 about1 = true := code_word (m := ⟨1, 1⟩) (meth := k1m1) (c := k1c1) (by decide +kernel) rfl rfl rfl (by decide +kernel)
set_option maxRecDepth 65536 in
theorem w_c1 : (Jvm.Cond.code ({ cls := "com/example/keelform/keelform/EntryKey", name := "of", desc := "(JZI)J" } : Jvm.MethodName) prog_3_method_2_code (4 : Nat) (Option.some Jvm.ClassFile.FieldType.long)).before args0 about1 = true := code_word (m := ⟨2, 1⟩) (meth := k2m1) (c := k2c1) (by decide +kernel) rfl rfl rfl (by decide +kernel)
set_option maxRecDepth 65536 in
theorem w_c2 : (Jvm.Cond.code ({ cls := "com/example/keelform/keelform/EntryKey", name := "fieldNumber", desc := "(J)J" } : Jvm.MethodName) prog_3_method_3_code (2 : Nat) (Option.some Jvm.ClassFile.FieldType.long)).before args0 about1 = true := code_word (m := ⟨2, 2⟩) (meth := k2m2) (c := k2c2) (by decide +kernel) rfl rfl rfl (by decide +kernel)
set_option maxRecDepth 65536 in
theorem w_c3 : (Jvm.Cond.code ({ cls := "com/example/keelform/keelform/EntryKey", name := "isCritical", desc := "(J)Z" } : Jvm.MethodName) prog_3_method_4_code (2 : Nat) (Option.some Jvm.ClassFile.FieldType.boolean)).before args0 about1 = true := code_word (m := ⟨2, 3⟩) (meth := k2m3) (c := k2c3) (by decide +kernel) rfl rfl rfl (by decide +kernel)
set_option maxRecDepth 65536 in
theorem w_c4 : (Jvm.Cond.code ({ cls := "com/example/keelform/keelform/EntryKey", name := "wireType", desc := "(J)I" } : Jvm.MethodName) prog_3_method_5_code (2 : Nat) (Option.some Jvm.ClassFile.FieldType.int)).before args0 about1 = true := code_word (m := ⟨2, 4⟩) (meth := k2m4) (c := k2c4) (by decide +kernel) rfl rfl rfl (by decide +kernel)
def codes1 : List Jvm.Cond := [Jvm.Cond.code x code maxLocals ret, Jvm.Cond.code ({ cls := "com/example/keelform/keelform/EntryKey", name := "of", desc := "(JZI)J" } : Jvm.MethodName) prog_3_method_2_code (4 : Nat) (Option.some Jvm.ClassFile.FieldType.long), Jvm.Cond.code ({ cls := "com/example/keelform/keelform/EntryKey", name := "fieldNumber", desc := "(J)J" } : Jvm.MethodName) prog_3_method_3_code (2 : Nat) (Option.some Jvm.ClassFile.FieldType.long), Jvm.Cond.code ({ cls := "com/example/keelform/keelform/EntryKey", name := "isCritical", desc := "(J)Z" } : Jvm.MethodName) prog_3_method_4_code (2 : Nat) (Option.some Jvm.ClassFile.FieldType.boolean), Jvm.Cond.code ({ cls := "com/example/keelform/keelform/EntryKey", name := "wireType", desc := "(J)I" } : Jvm.MethodName) prog_3_method_5_code (2 : Nat) (Option.some Jvm.ClassFile.FieldType.int)]
set_option maxRecDepth 65536 in
theorem codes_eq : words1.filter isCode = codes1 := rfl
theorem w_codes : ∀ c ∈ words1.filter isCode, c.before args0 about1 = true := by
  rw [codes_eq]
  intro c hc
  simp only [codes1, List.mem_cons, List.not_mem_nil, or_false] at hc
  rcases hc with rfl | rfl | rfl | rfl | rfl
  · exact w_c0
  · exact w_c1
  · exact w_c2
  · exact w_c3
  · exact w_c4
set_option maxRecDepth 65536 in
theorem w_t1 : words1.all (fun c => isCode c || c.before args0 about1) = true := by decide +kernel
theorem w_tables : (allAtoms (Jvm.Cond.code x code maxLocals ret :: tables_1)).before args0 about1 = true := by
  rw [allAtoms_all]
  show words1.all (fun c => c.before args0 about1) = true
  refine all_split ?_ w_codes
  rw [w_t1]
set_option maxRecDepth 65536 in
theorem w_case : (Jvm.Cond.and given_1 narrow_1).before args0 about1 = true := by decide +kernel
theorem w_applies : (headSpec (Jvm.Cond.code x code maxLocals ret :: tables_1) room_1).applies x e0.platform about1 = true :=
  (Spec.applies_iff w_frames).mpr ⟨w_running, w_runnable, w_alone, w_named, w_hears, w_ripe, w_room, w_tables⟩
theorem atStart : AtStart classFile x code maxLocals ret World_1 tables_1 room_1 Calls_1 rest_1 Pre_1 launch0 p0 e0 about1 theMethod args0 below0 :=
  ⟨lists_1, trivial, launch0.admits_env _ _ _, launch0.least_env, fairChoices_fair.cas, fairChoices_fair.clock, w_frames, w_args, w_heap, w_applies, trivial, trivial, w_case⟩
end start1
theorem witness_1 : WitnessClaimed_1 := ⟨start1.p0, start1.e0, start1.about1, start1.theMethod, start1.args0, start1.below0, start1.atStart⟩
end Jvm.Pilot.@@N@@
